import PyProof.Rows.All
import Wide.All
import OpenK.AllK
import Wide.FinOn
import KE.KCallOwn
import KE.KDictList
import KE.KDictSum
import KE.KSort
import KE.KSortTup
import PySem.Challenge.RW_de5027_01
set_option Elab.async false
set_option maxRecDepth 100000
set_option maxHeartbeats 0
set_option linter.unusedVariables false

section
open PySem PySem.W PyProof.Rows
namespace Mine
open_top hd for PySem.Challenge.rw_de5027_01
end Mine
end

section
open PySem PySem.W PySem.Calls PyProof.Rows
namespace Mine

abbrev Pr : Program := PySem.Challenge.rw_de5027_01.row.prog
abbrev WA {α : Type} (w : World) (A : Around) (t : Sem α) (Q : α → Shared → Prop) (s : Shared) : Prop :=
  wpAny (model Pr w) A t Q (fun _ _ => False) s

structure Sub (g h : Heap) : Prop where
  get : ∀ a o, g.get? a = some o → h.get? a = some o
theorem Sub.refl (h : Heap) : Sub h h := ⟨fun _ _ e => e⟩
theorem Sub.trans {a b c : Heap} (x : Sub a b) (y : Sub b c) : Sub a c := ⟨fun i o e => y.get i o (x.get i o e)⟩
theorem Sub.push (h : Heap) (o : Obj) : Sub h (h.push o) := ⟨fun _ _ e => Heap.get?_push_of_some _ e⟩
theorem Sub.none {g h : Heap} (x : Sub g h) {a : Addr} (e : h.get? a = .none) : g.get? a = .none := by
  cases q : g.get? a with
  | none => rfl
  | some o => rw [x.get a o q] at e; cases e

/-- the generators that there were stand -/
structure GenKeep (a b : Array GenState) : Prop where
  keep : ∀ (i : Nat) (x : GenState), a[i]? = some x → b[i]? = some x
  bare : AllBare a → AllBare b
theorem GenKeep.refl (a : Array GenState) : GenKeep a a := ⟨fun _ _ e => e, fun h => h⟩
theorem GenKeep.trans {a b c : Array GenState} (x : GenKeep b c) (y : GenKeep a b) : GenKeep a c := ⟨fun i g e => x.keep i g (y.keep i g e), fun h => x.bare (y.bare h)⟩
/-- from s to s' the part g of the heap stands, nothing else of the state but heap and toks is turned -/
structure Chg (g : Heap) (s s' : Shared) : Prop where
  sub : Sub g s'.heap
  gens : GenKeep s.gens s'.gens
  drawn : s'.drawn = s.drawn
  os : s'.os = s.os
abbrev Grow (s s' : Shared) : Prop := Chg s.heap s s'
theorem Grow.refl (s : Shared) : Grow s s := ⟨Sub.refl _, .refl _, rfl, rfl⟩
theorem Chg.trans {g : Heap} {a b c : Shared} (x : Chg g a b) (y : Chg g b c) : Chg g a c :=
  ⟨y.sub, y.gens.trans x.gens, y.drawn.trans x.drawn, y.os.trans x.os⟩
theorem Grow.trans {a b c : Shared} (x : Grow a b) (y : Grow b c) : Grow a c :=
  ⟨x.sub.trans y.sub, y.gens.trans x.gens, y.drawn.trans x.drawn, y.os.trans x.os⟩
theorem Grow.tok (s : Shared) (t : Nat) : Grow s { s with toks := t } := ⟨Sub.refl _, .refl _, rfl, rfl⟩
theorem Grow.alloc (s : Shared) (o : Obj) : Grow s { s with heap := s.heap.push o } := ⟨Sub.push _ _, .refl _, rfl, rfl⟩
theorem Grow.of {s : Shared} {h : Heap} {t : Nat} (x : Sub s.heap h) : Grow s { s with heap := h, toks := t } := ⟨x, .refl _, rfl, rfl⟩
theorem Chg.grow {g : Heap} {a b c : Shared} (x : Chg g a b) (y : Grow b c) : Chg g a c :=
  ⟨x.sub.trans y.sub, y.gens.trans x.gens, y.drawn.trans x.drawn, y.os.trans x.os⟩
theorem Chg.of_grow {g : Heap} {a b : Shared} (hg : Sub g a.heap) (x : Grow a b) : Chg g a b := ⟨hg.trans x.sub, x.gens, x.drawn, x.os⟩

def Has (h : Heap) (a : Addr) (φ : Obj → Prop) : Prop := ∃ o, h.get? a = some o ∧ φ o
theorem Has.mono {h h' : Heap} {a : Addr} {φ : Obj → Prop} (x : Has h a φ) (k : Sub h h') : Has h' a φ := let ⟨o, e, f⟩ := x; ⟨o, k.get _ _ e, f⟩

inductive Tag (ι : Type) where
  | loc
  | cel (x : Str)
  | pin (k : Nat)
  | lab (l : ι)

structure Own {ι : Type} (g : Heap) (W : Tag ι → Option (Addr × (Obj → Prop))) (h : Heap) : Prop where
  has : ∀ t a φ, W t = some (a, φ) → g.get? a = none ∧ ∃ o, h.get? a = some o ∧ φ o
  inj : ∀ t t' a φ φ', W t = some (a, φ) → W t' = some (a, φ') → t = t'

section
variable {ι : Type} {g h h' : Heap} {W W' : Tag ι → Option (Addr × (Obj → Prop))}
theorem Own.grow (O : Own g W h) (k : Sub h h') : Own g W h' :=
  ⟨fun t a φ e => let ⟨x, o, ho, hφ⟩ := O.has t a φ e; ⟨x, o, k.get _ _ ho, hφ⟩, O.inj⟩
theorem Own.weaken (O : Own g W h) (k : ∀ t b φ', W' t = some (b, φ') → ∃ φ, W t = some (b, φ) ∧ ∀ o, φ o → φ' o) : Own g W' h :=
  ⟨fun t a φ' e => by
      obtain ⟨φ, e1, e2⟩ := k t a φ' e
      obtain ⟨x, o, ho, hφ⟩ := O.has t a φ e1
      exact ⟨x, o, ho, e2 o hφ⟩,
   fun t t' a φ φ' e e' => by
      obtain ⟨ψ, e1, _⟩ := k t a φ e
      obtain ⟨ψ', e1', _⟩ := k t' a φ' e'
      exact O.inj t t' a ψ ψ' e1 e1'⟩
theorem Own.step {a : Addr} {o' : Obj} (O : Own g W h) (hk : ∀ b o, b ≠ a → h.get? b = some o → h'.get? b = some o) (ha : h'.get? a = some o') (t0 : Tag ι) (hga : g.get? a = none)
    (hold : ∀ t b φ, t ≠ t0 → W t = some (b, φ) → b ≠ a)
    (hW : ∀ t b φ', W' t = some (b, φ') → (t = t0 ∧ b = a ∧ φ' o') ∨ (t ≠ t0 ∧ ∃ φ, W t = some (b, φ) ∧ ∀ o, φ o → φ' o)) : Own g W' h' := by
  constructor
  · intro t b φ' e
    rcases hW t b φ' e with ⟨_, rfl, h2⟩ | ⟨h1, φ, h2, h3⟩
    · exact ⟨hga, _, ha, h2⟩
    · obtain ⟨x, o, ho, hφ⟩ := O.has t b φ h2
      exact ⟨x, o, hk b o (hold t b φ h1 h2) ho, h3 o hφ⟩
  · intro t t' b φ φ' e e'
    rcases hW t b φ e with ⟨h1, h2, _⟩ | ⟨h1, ψ, h2, _⟩ <;> rcases hW t' b φ' e' with ⟨h1', h2', _⟩ | ⟨h1', ψ', h2', _⟩
    · rw [h1, h1']
    · exact absurd h2 (hold t' b ψ' h1' h2')
    · exact absurd h2' (hold t b ψ h1 h2)
    · exact O.inj t t' b ψ ψ' h2 h2'
theorem Own.others (O : Own g W h) {t0 : Tag ι} {a : Addr} {φ0 : Obj → Prop} (e0 : W t0 = some (a, φ0)) : ∀ t b φ, t ≠ t0 → W t = some (b, φ) → b ≠ a := by
  intro t b φ hne e hb
  subst hb
  exact hne (O.inj t t0 b φ φ0 e e0)
end

abbrev Loc := List (Str × Value)
def locP (m : Loc) (o : Obj) : Prop := ∃ es ep, o.data = .dict es ep ∧ StrKeys es ∧ ∀ x v, m.lookup x = some v → nsFind es x = some v
def celP (cm : Loc) (x : Str) (o : Obj) : Prop := ∃ v, o.data = .cell v ∧ ∀ u, cm.lookup x = some u → v = some u

abbrev Sto (ι : Type) := ι → Option (Addr × (Obj → Prop))
def mkW {ι : Type} (L : Addr) (m : Loc) (cs : List (Str × Addr)) (cm : Loc) (P : List (Addr × (Obj → Prop))) (S : Sto ι) : Tag ι → Option (Addr × (Obj → Prop))
  | .loc => some (L, locP m)
  | .cel x => (cs.lookup x).map fun a => (a, celP cm x)
  | .pin k => P[k]?
  | .lab l => S l

/-- the frame at hand: its base (what the call may not turn), its locals' address, its cells, the state at the call -/
structure Cx where
  g : Heap
  L : Addr
  cs : List (Str × Addr)
  s0 : Shared

structure St {ι : Type} (c : Cx) (P : List (Addr × (Obj → Prop))) (m cm : Loc) (S : Sto ι) (s : Shared) : Prop where
  chg : Chg c.g c.s0 s
  own : Own c.g (mkW c.L m c.cs cm P S) s.heap

def updS {ι : Type} [DecidableEq ι] (S : Sto ι) (l : ι) (p : Addr × (Obj → Prop)) : Sto ι := fun x => if x = l then some p else S x

section
variable {ι : Type} {c : Cx} {P : List (Addr × (Obj → Prop))} {m cm : Loc} {S : Sto ι} {s s' : Shared}
theorem St.grow (X : St c P m cm S s) (G : Grow s s') : St c P m cm S s' := ⟨X.chg.grow G, X.own.grow G.sub⟩
theorem St.base (X : St c P m cm S s) {a : Addr} {o : Obj} (e : c.g.get? a = some o) : s.heap.get? a = some o := X.chg.sub.get a o e
theorem St.at (X : St c P m cm S s) {l : ι} {a : Addr} {φ : Obj → Prop} (e : S l = some (a, φ)) : Has s.heap a φ := (X.own.has (.lab l) a φ e).2
theorem St.baseH (X : St c P m cm S s) {a : Addr} {φ : Obj → Prop} (e : Has c.g a φ) : Has s.heap a φ := e.mono X.chg.sub
theorem St.fresh (X : St c P m cm S s) {l : ι} {a : Addr} {φ : Obj → Prop} (e : S l = some (a, φ)) : c.g.get? a = none := (X.own.has (.lab l) a φ e).1
theorem St.inj (X : St c P m cm S s) {l l' : ι} {a : Addr} {φ φ' : Obj → Prop} (e : S l = some (a, φ)) (e' : S l' = some (a, φ')) : l = l' := by
  have := X.own.inj (.lab l) (.lab l') a φ φ' e e'
  cases this; rfl
theorem St.pinAt (X : St c P m cm S s) {k : Nat} {a : Addr} {φ : Obj → Prop} (e : P[k]? = some (a, φ)) : Has s.heap a φ := (X.own.has (.pin k) a φ e).2
theorem St.lastAt {a : Addr} {φ : Obj → Prop} (X : St c (P ++ [(a, φ)]) m cm S s) : Has s.heap a φ := X.pinAt (k := P.length) (by rw [List.getElem?_append_right (Nat.le_refl _), Nat.sub_self]; rfl)

theorem St.locals (X : St c P m cm S s) : ∃ M, s.heap.Ns c.L M ∧ ∀ x v, m.lookup x = some v → M x = some v := by
  obtain ⟨_, o, ho, es, ep, hd, hk, hf⟩ := X.own.has .loc c.L (locP m) rfl
  exact ⟨fun x => nsFind es x, ⟨o, es, ep, ho, hd, hk, fun _ => rfl⟩, hf⟩

theorem St.cell (X : St c P m cm S s) {x : Str} {a : Addr} {v : Value} (e : c.cs.lookup x = some a) (hv : cm.lookup x = some v) : s.heap.IsCell a (some v) := by
  obtain ⟨_, o, ho, u, hd, hu⟩ := X.own.has (.cel x) a (celP cm x) (by show (c.cs.lookup x).map _ = _; rw [e]; rfl)
  rw [hu v hv] at hd
  exact ⟨o, ho, hd⟩

/-- forget what is known of the names, the objects -/
theorem St.weaken {m' cm' : Loc} {S' : Sto ι} (X : St c P m cm S s) (hm : ∀ x v, m'.lookup x = some v → m.lookup x = some v) (hc : ∀ x v, cm'.lookup x = some v → cm.lookup x = some v)
    (hS : ∀ l a φ', S' l = some (a, φ') → ∃ φ, S l = some (a, φ) ∧ ∀ o, φ o → φ' o) : St c P m' cm' S' s := by
  refine ⟨X.chg, X.own.weaken ?_⟩
  intro t b φ' e
  cases t with
  | loc => cases e; exact ⟨_, rfl, fun o ⟨es, ep, a, b, d⟩ => ⟨es, ep, a, b, fun x v q => d x v (hm x v q)⟩⟩
  | cel x =>
    obtain ⟨a, ea, eb⟩ := Option.map_eq_some_iff.mp e
    cases eb
    exact ⟨celP cm x, by show (c.cs.lookup x).map _ = _; rw [ea]; rfl, fun o ⟨v, hv, hu⟩ => ⟨v, hv, fun u q => hu u (hc x u q)⟩⟩
  | pin k => exact ⟨φ', e, fun _ q => q⟩
  | lab l => exact hS l b φ' e

theorem lookup_of_all {m m' : Loc} (h : ∀ p ∈ m', m.lookup p.1 = some p.2) : ∀ x v, m'.lookup x = some v → m.lookup x = some v := by
  intro x v e
  exact h (x, v) (mem_of_lookup e)


/-- a name of the frame is stored -/
theorem St.store (X : St c P m cm S s) {x : Str} {v : Value} {h' : Heap} {t : Nat} {M : Str → Option Value} (hM : s.heap.Ns c.L M) (hm : ∀ y u, m.lookup y = some u → M y = some u)
    (hn : h'.Ns c.L (fun y => if y = x then some v else M y)) (hs : Heap.SameBut c.L s.heap h') : St c P ((x, v) :: m) cm S { s with heap := h', toks := t } := by
  obtain ⟨o', es, ep, ho', hd, hk, hf⟩ := hn
  have hL := (X.own.has .loc c.L (locP m) rfl).1
  refine ⟨⟨⟨fun a o e => ?_⟩, X.chg.gens, X.chg.drawn, X.chg.os⟩, ?_⟩
  · refine (hs.2 a fun q => ?_).trans (X.chg.sub.get a o e)
    rw [q, hL] at e; cases e
  refine X.own.step (a := c.L) (o' := o') (t0 := .loc) (fun b o hb e => (hs.2 b hb).trans e) ho' hL (X.own.others (φ0 := locP m) rfl) ?_
  intro t b φ' e
  cases t with
  | loc =>
    cases e
    refine .inl ⟨rfl, rfl, es, ep, hd, hk, fun y u q => ?_⟩
    rw [hf y]
    rw [List.lookup_cons] at q
    by_cases hy : y = x
    · subst hy
      simp only [beq_self_eq_true] at q
      simpa using q
    · have hb : (y == x) = false := beq_eq_false_iff_ne.mpr hy
      rw [hb] at q
      simp only [if_neg hy]
      exact hm y u q
  | cel y => exact .inr ⟨(by intro z; cases z), φ', e, fun _ q => q⟩
  | pin k => exact .inr ⟨(by intro z; cases z), φ', e, fun _ q => q⟩
  | lab l => exact .inr ⟨(by intro z; cases z), φ', e, fun _ q => q⟩

theorem St.storeCell (X : St c P m cm S s) {x : Str} {a : Addr} {v : Value} {h' : Heap} (ea : c.cs.lookup x = some a)
    (hn : h'.IsCell a (some v)) (hs : Heap.SameBut a s.heap h') : St c P m ((x, v) :: cm) S { s with heap := h' } := by
  obtain ⟨o', ho', hd⟩ := hn
  have e0 : mkW c.L m c.cs cm P S (.cel x) = some (a, celP cm x) := by show (c.cs.lookup x).map _ = _; rw [ea]; rfl
  have hL := (X.own.has (.cel x) a _ e0).1
  refine ⟨⟨⟨fun b o e => ?_⟩, X.chg.gens, X.chg.drawn, X.chg.os⟩, ?_⟩
  · refine (hs.2 b fun q => ?_).trans (X.chg.sub.get b o e)
    rw [q, hL] at e; cases e
  refine X.own.step (a := a) (o' := o') (t0 := .cel x) (fun b o hb e => (hs.2 b hb).trans e) ho' hL (X.own.others e0) ?_
  intro t b φ' e
  cases t with
  | loc => exact .inr ⟨(by intro z; cases z), φ', e, fun _ q => q⟩
  | cel y =>
    by_cases hy : y = x
    · subst hy
      obtain ⟨a', ea', eb⟩ := Option.map_eq_some_iff.mp e
      rw [ea] at ea'; cases ea'; cases eb
      refine .inl ⟨rfl, rfl, some v, hd, fun u q => ?_⟩
      rw [List.lookup_cons, beq_self_eq_true] at q
      exact q
    · obtain ⟨a', ea', eb⟩ := Option.map_eq_some_iff.mp e
      cases eb
      refine .inr ⟨(by intro z; cases z; exact hy rfl), celP cm y, by show (c.cs.lookup y).map _ = _; rw [ea']; rfl, fun o ⟨u, hu, hq⟩ => ⟨u, hu, fun z q => hq z ?_⟩⟩
      rw [List.lookup_cons, show (y == x) = false from beq_eq_false_iff_ne.mpr hy] at q
      exact q
  | pin k => exact .inr ⟨(by intro z; cases z), φ', e, fun _ q => q⟩
  | lab l => exact .inr ⟨(by intro z; cases z), φ', e, fun _ q => q⟩

/-- an object of the ledger is turned -/
theorem St.set [DecidableEq ι] (X : St c P m cm S s) {l : ι} {a : Addr} {φ φ' : Obj → Prop} {h' : Heap} {t : Nat} (ea : S l = some (a, φ)) (hh : Has h' a φ')
    (hs : Heap.SameBut a s.heap h') : St c P m cm (updS S l (a, φ')) { s with heap := h', toks := t } := by
  obtain ⟨o', ho', hφ⟩ := hh
  have e0 : mkW c.L m c.cs cm P S (.lab l) = some (a, φ) := ea
  have hL := (X.own.has _ a _ e0).1
  refine ⟨⟨⟨fun b o e => ?_⟩, X.chg.gens, X.chg.drawn, X.chg.os⟩, ?_⟩
  · refine (hs.2 b fun q => ?_).trans (X.chg.sub.get b o e)
    rw [q, hL] at e; cases e
  refine X.own.step (a := a) (o' := o') (t0 := .lab l) (fun b o hb e => (hs.2 b hb).trans e) ho' hL (X.own.others e0) ?_
  intro t b φ2 e
  cases t with
  | loc => exact .inr ⟨(by intro z; cases z), φ2, e, fun _ q => q⟩
  | cel y => exact .inr ⟨(by intro z; cases z), φ2, e, fun _ q => q⟩
  | pin k => exact .inr ⟨(by intro z; cases z), φ2, e, fun _ q => q⟩
  | lab l' =>
    have ep : updS S l (a, φ') l' = some (b, φ2) := e
    unfold updS at ep
    by_cases hl : l' = l
    · subst hl
      rw [if_pos rfl] at ep; cases ep
      exact .inl ⟨rfl, rfl, hφ⟩
    · rw [if_neg hl] at ep
      exact .inr ⟨(by intro z; cases z; exact hl rfl), φ2, ep, fun _ q => q⟩

/-- a new object is put on the ledger -/
theorem St.new [DecidableEq ι] (X : St c P m cm S s) (G : Grow s s') {l : ι} {a : Addr} {φ : Obj → Prop} (hh : Has s'.heap a φ) (hfree : s.heap.get? a = none) :
    St c P m cm (updS S l (a, φ)) s' := by
  obtain ⟨o, ha, hφ⟩ := hh
  have nolt : ∀ {b : Addr} {ob : Obj}, s.heap.get? b = some ob → b ≠ a := fun e q => by rw [q, hfree] at e; cases e
  have hga : c.g.get? a = none := by
    cases q : c.g.get? a with
    | none => rfl
    | some ob => exact absurd rfl (nolt (X.chg.sub.get _ _ q))
  refine ⟨X.chg.grow G, X.own.step (a := a) (o' := o) (t0 := .lab l) (fun b o hb e => G.sub.get b o e) ha hga ?_ ?_⟩
  · intro t b φ _ e
    obtain ⟨_, ob, ho, _⟩ := X.own.has t b φ e
    exact nolt ho
  intro t b φ' e
  cases t with
  | loc => exact .inr ⟨(by intro z; cases z), φ', e, fun _ q => q⟩
  | cel y => exact .inr ⟨(by intro z; cases z), φ', e, fun _ q => q⟩
  | pin k => exact .inr ⟨(by intro z; cases z), φ', e, fun _ q => q⟩
  | lab l' =>
    have ep : updS S l (a, φ) l' = some (b, φ') := e
    unfold updS at ep
    by_cases hl : l' = l
    · subst hl
      rw [if_pos rfl] at ep; cases ep
      exact .inl ⟨rfl, rfl, hφ⟩
    · rw [if_neg hl] at ep
      exact .inr ⟨(by intro z; cases z; exact hl rfl), φ', ep, fun _ q => q⟩

/-- a new object is pinned -/
theorem St.pin (X : St c P m cm S s) (G : Grow s s') {a : Addr} {φ : Obj → Prop} (hh : Has s'.heap a φ) (hfree : s.heap.get? a = none) :
    St c (P ++ [(a, φ)]) m cm S s' := by
  obtain ⟨o, ha, hφ⟩ := hh
  have nolt : ∀ {b : Addr} {ob : Obj}, s.heap.get? b = some ob → b ≠ a := fun e q => by rw [q, hfree] at e; cases e
  have hga : c.g.get? a = none := by
    cases q : c.g.get? a with
    | none => rfl
    | some ob => exact absurd rfl (nolt (X.chg.sub.get _ _ q))
  refine ⟨X.chg.grow G, X.own.step (a := a) (o' := o) (t0 := .pin P.length) (fun b o hb e => G.sub.get b o e) ha hga ?_ ?_⟩
  · intro t b φ _ e
    obtain ⟨_, ob, ho, _⟩ := X.own.has t b φ e
    exact nolt ho
  intro t b φ' e
  cases t with
  | loc => exact .inr ⟨(by intro z; cases z), φ', e, fun _ q => q⟩
  | cel y => exact .inr ⟨(by intro z; cases z), φ', e, fun _ q => q⟩
  | lab k => exact .inr ⟨(by intro z; cases z), φ', e, fun _ q => q⟩
  | pin k =>
    have ep : (P ++ [(a, φ)])[k]? = some (b, φ') := e
    by_cases hl : k = P.length
    · subst hl
      rw [List.getElem?_append_right (Nat.le_refl _), Nat.sub_self] at ep
      cases ep
      exact .inl ⟨rfl, rfl, hφ⟩
    · have hlt : k < P.length := by
        have := (List.getElem?_eq_some_iff.mp ep).1
        rw [List.length_append] at this
        simp at this
        omega
      rw [List.getElem?_append_left hlt] at ep
      exact .inr ⟨(by intro z; cases z; exact hl rfl), _, ep, fun _ q => q⟩

theorem mkW_pre {p : Addr × (Obj → Prop)} {L : Addr} {cs : List (Str × Addr)} {t : Tag ι} {q : Addr × (Obj → Prop)} (e : mkW L m cs cm P S t = some q) : mkW L m cs cm (P ++ [p]) S t = some q := by
  cases t with
  | loc => exact e
  | cel x => exact e
  | lab x => exact e
  | pin k =>
    have ea : P[k]? = some q := e
    show (P ++ [p])[k]? = some q
    rw [List.getElem?_append_left (List.getElem?_eq_some_iff.mp ea).1, ea]

theorem St.unpin {p : Addr × (Obj → Prop)} (X : St c (P ++ [p]) m cm S s) : St c P m cm S s :=
  ⟨X.chg, X.own.weaken fun t b φ' e => ⟨φ', mkW_pre e, fun _ q => q⟩⟩

abbrev Ext (a : Addr) (h h' : Heap) : Prop := ∀ b o, b ≠ a → h.get? b = some o → h'.get? b = some o
/-- the last pinned object is turned (an iterator goes on) -/
theorem St.repin {a : Addr} {φ φ' : Obj → Prop} (X : St c (P ++ [(a, φ)]) m cm S s) {h' : Heap} {t : Nat} (hh : Has h' a φ')
    (hs : Ext a s.heap h') : St c (P ++ [(a, φ')]) m cm S { s with heap := h', toks := t } := by
  obtain ⟨o', ho', hφ⟩ := hh
  have e0 : mkW c.L m c.cs cm (P ++ [(a, φ)]) S (.pin P.length) = some (a, φ) := by
    show (P ++ [(a, φ)])[P.length]? = _
    rw [List.getElem?_append_right (Nat.le_refl _), Nat.sub_self]; rfl
  have hL := (X.own.has _ a _ e0).1
  refine ⟨⟨⟨fun b o e => ?_⟩, X.chg.gens, X.chg.drawn, X.chg.os⟩, ?_⟩
  · refine hs b o (fun q => ?_) (X.chg.sub.get b o e)
    rw [q, hL] at e; cases e
  refine X.own.step (a := a) (o' := o') (t0 := .pin P.length) (fun b o hb e => hs b o hb e) ho' hL (X.own.others e0) ?_
  intro t b φ2 e
  cases t with
  | loc => exact .inr ⟨(by intro z; cases z), φ2, e, fun _ q => q⟩
  | cel y => exact .inr ⟨(by intro z; cases z), φ2, e, fun _ q => q⟩
  | lab k => exact .inr ⟨(by intro z; cases z), φ2, e, fun _ q => q⟩
  | pin k =>
    have ep : (P ++ [(a, φ')])[k]? = some (b, φ2) := e
    by_cases hl : k = P.length
    · subst hl
      rw [List.getElem?_append_right (Nat.le_refl _), Nat.sub_self] at ep
      cases ep
      exact .inl ⟨rfl, rfl, hφ⟩
    · have hlt : k < P.length := by
        have := (List.getElem?_eq_some_iff.mp ep).1
        rw [List.length_append] at this
        simp at this
        omega
      rw [List.getElem?_append_left hlt] at ep
      exact .inr ⟨(by intro z; cases z; exact hl rfl), _, mkW_pre (P := P) (p := (a, φ)) ep, fun _ q => q⟩

/-- the last pinned object is let go, whatever has become of it -/
theorem St.drop {a : Addr} {φ : Obj → Prop} (X : St c (P ++ [(a, φ)]) m cm S s) {h' : Heap} {t : Nat} (hs : Ext a s.heap h') : St c P m cm S { s with heap := h', toks := t } := by
  have e0 : mkW c.L m c.cs cm (P ++ [(a, φ)]) S (.pin P.length) = some (a, φ) := by
    show (P ++ [(a, φ)])[P.length]? = _
    rw [List.getElem?_append_right (Nat.le_refl _), Nat.sub_self]; rfl
  have hL := (X.own.has _ a _ e0).1
  refine ⟨⟨⟨fun b o e => ?_⟩, X.chg.gens, X.chg.drawn, X.chg.os⟩, ⟨fun t b φ2 e => ?_, fun t t' b φ2 φ3 e e' => X.own.inj t t' b φ2 φ3 (mkW_pre e) (mkW_pre e')⟩⟩
  · refine hs b o (fun q => ?_) (X.chg.sub.get b o e)
    rw [q, hL] at e; cases e
  · obtain ⟨x, o, ho, hφ⟩ := X.own.has t b φ2 (mkW_pre e)
    refine ⟨x, o, hs b o (fun q => ?_) ho, hφ⟩
    subst q
    have := X.own.inj t (.pin P.length) b φ2 φ (mkW_pre e) e0
    subst this
    have e1 : P[P.length]? = some (b, φ2) := e
    rw [List.getElem?_eq_none (Nat.le_refl _)] at e1
    cases e1
end
end Mine
end

section
open PySem PySem.W PySem.Calls PyProof.Rows
namespace Mine

noncomputable abbrev Kf (w : World) : Frag := hd.heap_39 w.params

structure Stat (w : World) (g : Heap) : Prop where
  K : (Kf w).In g
  glob : ∃ mg, g.Ns mainGlobals mg
  built : ∃ mb, g.Ns builtinsNs mb ∧ ∀ x : Str, x ≠ "__name__" → mb x = bootBuiltins x
  nolimit : g.NoLimit
theorem Stat.mono {w : World} {g h : Heap} (X : Stat w g) (k : ∀ b o, g.get? b = some o → h.get? b = some o) : Stat w h :=
  ⟨X.K.keeps k, let ⟨mg, x⟩ := X.glob; ⟨mg, x.keeps k⟩, let ⟨mb, x, y⟩ := X.built; ⟨mb, x.keeps k, y⟩, X.nolimit.keeps k⟩

/-- the room that is left around a call -/
structure Ok (A : Around) (k : Nat) : Prop where
  hd : A.handled = none
  dep : A.depth + k < recursionLimit
  un : A.units + 20 * k < cLine
theorem Ok.le {A : Around} {k j : Nat} (h : Ok A k) (hj : j ≤ k) : Ok A j := ⟨h.hd, by have := h.dep; omega, by have := h.un; omega⟩
theorem Ok.room {A : Around} {k : Nat} (h : Ok A k) : A.depth < recursionLimit := Nat.lt_of_le_of_lt (Nat.le_add_right _ _) h.dep
theorem Ok.in1 {A : Around} {k : Nat} (h : Ok A (k + 1)) : Ok A.in1 k := ⟨h.hd, by have := h.dep; show A.depth + k < _; omega, by have := h.un; show A.units + 1 + _ < _; omega⟩
theorem Ok.deeper {A : Around} {k : Nat} {env : Env} (h : Ok A (k + 1)) : Ok (A.deeper env) k :=
  ⟨h.hd, by have := h.dep; show A.depth + 1 + k < _; omega, by have := h.un; show A.units + 3 + _ < _; omega⟩

section
variable {w : World} {A : Around} {s : Shared} {env : Env}

theorem WA.mono {α : Type} {t : Sem α} {Q Q' : α → Shared → Prop} (h : WA w A t Q s) (hQ : ∀ a s', Q a s' → Q' a s') : WA w A t Q' s := wpAny_mono h hQ fun _ _ x => x
theorem r_bind {α β : Type} {m : Sem α} {f : α → Sem β} {Q : β → Shared → Prop} (h : WA w A m (fun a s' => WA w A (f a) Q s') s) : WA w A (m >>= f) Q s := wpAny_bind h

-- statements
theorem r_nil {Q : Flow → Shared → Prop} (h : Q .next s) : WA w A (execs [] env) Q s := wpAny_execs_nil h
theorem r_assign {x : Str} {p' p : Pos} {value : Expr} {rest : List Stmt} {Q : Flow → Shared → Prop}
    (h : WA w A (eval value env) (fun v s₁ => WA w A (storeName env x v) (fun _ s₂ => WA w A (execs rest env) Q s₂) s₁) s)
    (hs : swapsWith value (some (.Name x p')) p.line env = pure false := by rfl) :
    WA w A (execs (.Assign [.Name x p'] value p :: rest) env) Q s :=
  wpAny_execs_cons (wpAny_Assign_Name h hs)
theorem r_expr {e : Expr} {p : Pos} {rest : List Stmt} {Q : Flow → Shared → Prop}
    (h : WA w A (eval e env) (fun v s₁ => match v with | .ref _ => False | _ => WA w A (execs rest env) Q s₁) s)
    (hi : interactive env = false := by rfl) (hs : swapsWith e none p.line env = pure false := by rfl) :
    WA w A (execs (.Expr e p :: rest) env) Q s :=
  wpAny_execs_cons (wpAny_Expr h hi hs)
theorem r_ret {e : Expr} {p : Pos} {rest : List Stmt} {Q : Flow → Shared → Prop} (h : WA w A (eval e env) (fun v s₁ => Q (.ret v) s₁) s) :
    WA w A (execs (.Return (some e) p :: rest) env) Q s := wpAny_execs_cons (wpAny_Return_some h)
theorem r_retNone {p : Pos} {rest : List Stmt} {Q : Flow → Shared → Prop} (h : Q (.ret .none) s) :
    WA w A (execs (.Return none p :: rest) env) Q s := wpAny_execs_cons (wpAny_Return_none h)
/-- what stands behind a statement -/
def Kont (w : World) (A : Around) (env : Env) (rest : List Stmt) (Q : Flow → Shared → Prop) : Flow → Shared → Prop :=
  fun f s' => match f with | .next => WA w A (execs rest env) Q s' | f => Q f s'
theorem r_seq {st : Stmt} {rest : List Stmt} {Q : Flow → Shared → Prop} (h : WA w A (exec st env) (Kont w A env rest Q) s) : WA w A (execs (st :: rest) env) Q s := wpAny_execs_cons h
theorem r_if {test : Expr} {body orelse rest : List Stmt} {p : Pos} {Q : Flow → Shared → Prop}
    (h : WA w A (isTrue test env (eval test env)) (fun b s₂ => if b = true then WA w A (execs body env) (Kont w A env rest Q) s₂ else WA w A (execs orelse env) (Kont w A env rest Q) s₂) s) :
    WA w A (execs (.If test body orelse p :: rest) env) Q s := r_seq (wpAny_If h)
theorem k_next {rest : List Stmt} {Q : Flow → Shared → Prop} (h : WA w A (execs rest env) Q s) : Kont w A env rest Q .next s := h
theorem r_pass {p : Pos} {rest : List Stmt} {Q : Flow → Shared → Prop} (h : WA w A (execs rest env) Q s) : WA w A (execs (.Pass p :: rest) env) Q s := wpAny_execs_cons (wpAny_Pass h)
theorem r_break {p : Pos} {rest : List Stmt} {Q : Flow → Shared → Prop} (h : Q .brk s) : WA w A (execs (.Break p :: rest) env) Q s := wpAny_execs_cons (wpAny_Break h)

-- expressions
theorem r_int {i : Int} {k : Nat} {p : Pos} {Q : Value → Shared → Prop} (h : ∀ t s', Grow s s' → Q (.int i t) s') : WA w A (eval (.Constant (.int i) k p) env) Q s :=
  wpAny_Constant_int (h _ _ (Grow.tok s _))
theorem r_str {i : Str} {k : Nat} {p : Pos} {Q : Value → Shared → Prop} (h : ∀ t s', Grow s s' → Q (.str i t) s') : WA w A (eval (.Constant (.str i) k p) env) Q s :=
  Constant_str (h _ _ (Grow.tok s _))
theorem r_none {k : Nat} {p : Pos} {Q : Value → Shared → Prop} (h : Q .none s) : WA w A (eval (.Constant .none k p) env) Q s := wpAny_Constant_none h
theorem r_bool {b : Bool} {k : Nat} {p : Pos} {Q : Value → Shared → Prop} (h : Q (.bool b) s) : WA w A (eval (.Constant (.bool b) k p) env) Q s := wpAny_Constant_bool h
theorem r_bin {l r : Expr} {op : Operator} {p : Pos} {Q : Value → Shared → Prop}
    (h : WA w A (eval l env) (fun a s₁ => WA w A (eval r env) (fun b s₂ => WA w A (binaryOp op a b) Q s₂) s₁) s) : WA w A (eval (.BinOp l op r p) env) Q s := wpAny_BinOp h
theorem r_un {e : Expr} {op : UnaryOp} {p : Pos} {Q : Value → Shared → Prop}
    (h : WA w A (eval e env) (fun a s₁ => WA w A (unaryOp op a) Q s₁) s) : WA w A (eval (.UnaryOp op e p) env) Q s := wpAny_UnaryOp h
theorem r_cmp {l r : Expr} {op : CmpOp} {p : Pos} {Q : Value → Shared → Prop}
    (h : WA w A (eval l env) (fun a s₁ => WA w A (eval r env) (fun b s₂ => WA w A (compareOp op a b) Q s₂) s₁) s)
    (hm : behindInMarks op r = false := by with_unfolding_all rfl) : WA w A (eval (.Compare l [op] [r] p) env) Q s := wpAny_Compare1 h hm
theorem t_cmp {l r : Expr} {op : CmpOp} {p : Pos} {whole : Sem Value} {Q : Bool → Shared → Prop}
    (h : WA w A (eval l env) (fun a s₁ => WA w A (eval r env) (fun b s₂ => WA w A (compareOp op a b) (fun c s₃ => WA w A (truthy c) Q s₃) s₂) s₁) s)
    (hm : behindInMarks op r = false := by with_unfolding_all rfl) : WA w A (isTrue (.Compare l [op] [r] p) env whole) Q s := wpAny_isTrue_Compare1 h hm
theorem t_not {e : Expr} {p : Pos} {whole : Sem Value} {Q : Bool → Shared → Prop} (h : WA w A (isTrue e env (eval e env)) (fun b s₁ => Q (!b) s₁) s) :
    WA w A (isTrue (.UnaryOp .Not e p) env whole) Q s := wpAny_isTrue_Not h
theorem t_name {x : Str} {p : Pos} {Q : Bool → Shared → Prop} (h : WA w A (eval (.Name x p) env) (fun v s₁ => WA w A (truthy v) Q s₁) s) :
    WA w A (isTrue (.Name x p) env (eval (.Name x p) env)) Q s := wpAny_isTrue_value h (by rfl)
theorem tr_bool {b : Bool} {Q : Bool → Shared → Prop} (h : Q b s) : WA w A (truthy (.bool b)) Q s := wpAny_truthy_bool h
theorem tr_none {Q : Bool → Shared → Prop} (h : Q false s) : WA w A (truthy .none) Q s := wpAny_pure h

theorem args_nil {p : Pos} {Q : List Value → Shared → Prop} (h : Q [] s) : WA w A (spliced (backTo p (starEach [] env))) Q s := wpAny_items_nil h
theorem args_cons {p : Pos} {e : Expr} {rest : List Expr} {Q : List Value → Shared → Prop}
    (h : WA w A (eval e env) (fun v s₁ => WA w A (spliced (backTo p (starEach rest env))) (fun vs s₂ => Q (v :: vs) s₂) s₁) s)
    (he : starEach (e :: rest) env = (false, eval e env) :: starEach rest env := by rfl) : WA w A (spliced (backTo p (starEach (e :: rest) env))) Q s := by
  rw [he]
  exact spliced_cons h

theorem r_callName {id : Str} {p pos : Pos} {args : List Expr} {Q : Value → Shared → Prop}
    (h : WA w A (eval (.Name id p) env) (fun f s₁ => WA w A (callWith pos f [] (backTo pos (starEach args env)) []) Q s₁) s) :
    WA w A (eval (.Call (.Name id p) args [] pos) env) Q s := wpAny_Call_Name_kw h
theorem r_callMeth {o : Expr} {name : Str} {apos pos : Pos} {args : List Expr} {pl : Sem Bool} {Q : Value → Shared → Prop}
    (h : WA w A (eval o env) (fun ov s₁ => WA w A (getMethod ov name pl) (fun fx s₂ => WA w A (callWith pos fx.1 fx.2 (backTo pos (starEach args env)) []) Q s₂) s₁) s)
    (he : eval (.Call (.Attribute o name apos) args [] pos) env = (do
      let ov ← eval o env
      standAt apos.atName
      let (f, first) ← holding [ov] (getMethod ov name pl)
      callWith pos f first (backTo pos (starEach args env)) (backToKw pos (keywordEach [] env))) := by rfl) :
    WA w A (eval (.Call (.Attribute o name apos) args [] pos) env) Q s := methodCall_KW h he

theorem cw_args0 {f : Value} {Q : Args → Shared → Prop} (h : Q ⟨[], []⟩ s) : WA w A (evalArgs f true [] []) Q s := evalArgs_nil3 h
theorem cw_args1 {f : Value} {x : Sem Value} {rest : List (Bool × Sem Value)} {Q : Args → Shared → Prop} (h : WA w A (spliced ((false, x) :: rest)) (fun vs s' => Q ⟨vs, []⟩ s') s) :
    WA w A (evalArgs f true ((false, x) :: rest) []) Q s := evalArgs_plain h

/-- the call behind its arguments; the callee's keeper may be whatever -/
def Keeps (w : World) (h : Heap) (f : Value) : Prop := ∃ k, Looks (model Pr w) h (keeperOf f) k
theorem cw_tail {pos : Pos} {f : Value} {first vs : List Value} {args : List (Bool × Sem Value)} {Q : Value → Shared → Prop} (hp : args.any (·.1) = false) (hk : Keeps w s.heap f) (h : WA w A (call f (first ++ vs)) Q s) :
    WA w A (do
      standAt pos
      let starred := args.any (·.1) || ([] : List (Option Str × Sem Value)).any (·.1.isNone)
      let pos := first ++ vs
      let r ← match ← keeperOf f, starred with
        | .frame, true => callMarked starredCall f pos []
        | .frame, false => if args.length + 2 * ([] : List (Option Str × Sem Value)).length > 30 then call f pos [] else callMarked plainCall f pos []
        | .boundFrame, false => if args.length + 2 * ([] : List (Option Str × Sem Value)).length > 30 then call f pos [] else callMarked callOfAMethodObject f pos []
        | .machine, false => call f pos []
        | _, _ => operate (f :: (if starred then pos.reverse else pos) ++ ([] : List (Str × Value)).map (·.2)) (call f pos [])
      holding [r] point
      pure r) Q s := by
  obtain ⟨k, L⟩ := hk
  refine wpAny_bind (wpAny_standAt ?_)
  simp only [hp, List.any_nil, Bool.or_false]
  refine wpAny_bind (L.here ?_)
  have tail : ∀ {t : Sem Value}, WA w A t Q s → WA w A (t >>= fun r => holding [r] point >>= fun _ => pure r) Q s :=
    fun ht => wpAny_bind (wpAny_mono ht (fun r s₂ hr => wpAny_bind (wpAny_holding (wpAny_point (wpAny_pure hr)))) fun _ _ x => x)
  have marked (mk : Value) : WA w A (callMarked mk f (first ++ vs) []) Q s := by unfold callMarked; exact Calls.wpAny_keep h
  cases k <;> dsimp only <;> first | exact tail h | exact tail (wpAny_operating h) | (split <;> first | exact tail h | exact tail (marked _))
theorem r_cw0 {pos : Pos} {f : Value} {first : List Value} {Q : Value → Shared → Prop} (hk : Keeps w s.heap f) (h : WA w A (call f (first ++ [])) Q s) :
    WA w A (callWith pos f first (backTo pos (starEach [] env)) []) Q s := by
  unfold callWith
  refine wpAny_bind (wpAny_holding (cw_args0 ?_))
  exact cw_tail (args := backTo pos (starEach [] env)) rfl hk h
theorem r_cw {pos : Pos} {f : Value} {first : List Value} {e : Expr} {rest : List Expr} {Q : Value → Shared → Prop}
    (h : WA w A (spliced (backTo pos (starEach (e :: rest) env))) (fun vs s' => Keeps w s'.heap f ∧ WA w A (call f (first ++ vs)) Q s') s)
    (he : starEach (e :: rest) env = (false, eval e env) :: starEach rest env := by rfl) (hp : (backTo pos (starEach rest env)).any (·.1) = false := by rfl) :
    WA w A (callWith pos f first (backTo pos (starEach (e :: rest) env)) []) Q s := by
  rw [he] at h ⊢
  unfold callWith
  refine wpAny_bind (wpAny_holding (cw_args1 (WA.mono h fun vs s' h' => ?_)))
  exact cw_tail (args := (false, eval e env) :: backTo pos (starEach rest env)) (by show (false || (backTo pos (starEach rest env)).any (·.1)) = false; rw [hp]; rfl) h'.1 h'.2
theorem keeps_builtin (h : Heap) (id : String) : Keeps w h (.builtin id) := ⟨.machine, Looks.of_pure rfl⟩
theorem keeps_type (h : Heap) (id : String) : Keeps w h (.type id) := ⟨.machine, Looks.of_pure rfl⟩
theorem keeps_func {h : Heap} {a : Addr} {o : Obj} {fd : FuncData} (ho : h.get? a = some o) (hd : o.data = .func fd) : Keeps w h (.ref a) :=
  ⟨.frame, (Looks.ld (part := none) ho).andThen (by rw [hd]; exact Looks.now)⟩
theorem keeps_plain {h : Heap} {a : Addr} {o : Obj} (ho : h.get? a = some o) (hd : o.data = .plain) : Keeps w h (.ref a) :=
  ⟨.caller, (Looks.ld (part := none) ho).andThen (by rw [hd]; exact Looks.now)⟩
theorem keeps_K {h : Heap} {f : Value} (X : (Kf w).In h) (hk : keepIn (Kf w) f = true) : Keeps w h f := let ⟨k, _, L⟩ := looks_keep hk X; ⟨k, L⟩

-- names
section
variable {ι : Type} {c : Cx} {P : List (Addr × (Obj → Prop))} {m cm : Loc} {S : Sto ι}
theorem r_local {x : Str} {p : Pos} {v : Value} {Q : Value → Shared → Prop} (X : St c P m cm S s) (hv : m.lookup x = some v) (h : Q v s)
    (hL : env.locals = c.L := by rfl) (hk : env.scope.kind = .function := by rfl) (hl : env.kindOf x = some .local := by rfl) (hd : (x == ("__debug__" : Str)) = false := by decide) :
    WA w A (eval (.Name x p) env) Q s := by
  obtain ⟨M, hM, hm⟩ := X.locals
  exact wpAny_Name (wpAny_loadName_local hk hl (hL ▸ hM) (hm x v hv) h) hd
theorem r_cell {x : Str} {p : Pos} {a : Addr} {v : Value} {Q : Value → Shared → Prop} (X : St c P m cm S s) (hv : cm.lookup x = some v) (h : Q v s)
    (ha : env.cells.lookup x = some a := by rfl) (hc : c.cs.lookup x = some a := by rfl) (hk : env.scope.kind = .function := by rfl) (hl : env.kindOf x = some .cell := by rfl) (hd : (x == ("__debug__" : Str)) = false := by decide) :
    WA w A (eval (.Name x p) env) Q s := wpAny_Name (wpAny_loadName_cell hk hl ha (X.cell hc hv) h) hd
theorem r_free {x : Str} {p : Pos} {a : Addr} {v : Value} {Q : Value → Shared → Prop} (X : s.heap.IsCell a (some v)) (h : Q v s)
    (ha : env.cells.lookup x = some a := by rfl) (hk : env.scope.kind = .function := by rfl) (hl : env.kindOf x = some .free := by rfl) (hd : (x == ("__debug__" : Str)) = false := by decide)
    (hn : (x == ("__classdict__" : Str)) = false := by decide) :
    WA w A (eval (.Name x p) env) Q s := wpAny_Name (wpAny_loadName_free hk hl ha X h hn) hd
theorem r_glob {x : Str} {p : Pos} {v : Value} {Q : Value → Shared → Prop} (T : Stat w s.heap) (e : nsIn (Kf w) mainGlobals x = some (some v)) (h : Q v s)
    (hg : env.globals = mainGlobals := by rfl) (hk : env.scope.kind = .function := by rfl) (hl : env.kindOf x = some .globalImplicit := by rfl) (hd : (x == ("__debug__" : Str)) = false := by decide) :
    WA w A (eval (.Name x p) env) Q s := by
  obtain ⟨mg, hmg⟩ := T.glob
  exact Name_function_global hk hl (loadGlobal_global (env := env) (hg ▸ hmg) (mg_of T.K hmg e) h) hd
theorem r_built {x : Str} {p : Pos} {v : Value} {Q : Value → Shared → Prop} (T : Stat w s.heap) (e : nsIn (Kf w) mainGlobals x = some none) (hv : bootBuiltins x = some v) (h : Q v s) (hn : x ≠ "__name__" := by decide)
    (hg : env.globals = mainGlobals := by rfl) (hb : env.builtins = builtinsNs := by rfl) (hk : env.scope.kind = .function := by rfl) (hl : env.kindOf x = some .globalImplicit := by rfl) (hd : (x == ("__debug__" : Str)) = false := by decide) :
    WA w A (eval (.Name x p) env) Q s := by
  obtain ⟨mg, hmg⟩ := T.glob
  obtain ⟨mb, hmb, hB⟩ := T.built
  exact Name_function_global hk hl (loadGlobal_builtin (env := env) (hg ▸ hmg) (mg_none_of T.K hmg e) (hb ▸ hmb) ((hB x hn).trans hv) h) hd
theorem r_store {x : Str} {v : Value} {Q : Unit → Shared → Prop} (X : St c P m cm S s) (h : ∀ s', St c P ((x, v) :: m) cm S s' → Q () s')
    (hL : env.locals = c.L := by rfl) (hk : env.scope.kind = .function := by rfl) (hl : env.kindOf x = some .local := by rfl) : WA w A (storeName env x v) Q s := by
  obtain ⟨M, hM, hm⟩ := X.locals
  exact wpAny_storeName_local hl (hL ▸ hM) (fun h' hn hs => h _ (X.store hM hm (hL ▸ hn) (hL ▸ hs))) (by rw [hk]; rfl)
theorem r_storeCell {x : Str} {a : Addr} {v : Value} {Q : Unit → Shared → Prop} (X : St c P m cm S s) (h : ∀ s', St c P m ((x, v) :: cm) S s' → Q () s')
    (ha : env.cells.lookup x = some a := by rfl) (hc : c.cs.lookup x = some a := by rfl) (hk : env.scope.kind = .function := by rfl) (hl : env.kindOf x = some .cell := by rfl) : WA w A (storeName env x v) Q s := by
  obtain ⟨_, o, ho, u, hd, _⟩ := X.own.has (.cel x) a (celP cm x) (by show (c.cs.lookup x).map _ = _; rw [hc]; rfl)
  exact wpAny_storeName_cell hk hl ha ⟨o, ho, hd⟩ fun h' hn hs => h _ (X.storeCell hc hn hs)
end

-- methods
def methTypes : List Value := [.type "function", .type "method_descriptor", .type "wrapper_descriptor"]
theorem r_getMethod {a : Addr} {o : Obj} {name : Str} {f tf : Value} {pl : Sem Bool} {Q : Value × List Value → Shared → Prop} (T : Stat w s.heap) (ho : s.heap.get? a = some o)
    {ga : String} (h1 : findIn (Kf w) o.cls "__getattribute__" = some (some (.builtin ga))) (hga : (Manifest.canonical ga != "object.__getattribute__") = false) (h2 : findIn (Kf w) o.cls "__getattr__" = some none)
    (h3 : findIn (Kf w) o.cls name = some (some f)) (h4 : typeIn (Kf w) f = some tf) (h5 : tf = .type "function" ∨ tf = .type "method_descriptor" ∨ tf = .type "wrapper_descriptor")
    (h6 : o.dict = none ∨ ∃ d od, o.dict = some d ∧ s.heap.get? d = some od ∧ lookIn name od = some none)
    (h : Q (f, [.ref a]) s) : WA w A (getMethod (.ref a) name pl) Q s := by
  have hT : Looks (model Pr w) s.heap (typeOf (.ref a)) o.cls := (Looks.ld ho).andThen .now
  unfold getMethod specialOf
  refine wpAny_bind (wpAny_bind (hT.here ((looks_findIn T.K h1).here ?_)))
  dsimp only
  rw [if_neg (by rw [hga]; decide)]
  refine wpAny_bind (wpAny_bind (hT.here ((looks_findIn T.K h2).here ?_)))
  rw [if_neg (by simp)]
  refine wpAny_bind (wpAny_bind (hT.here ((looks_findIn T.K h3).here ?_)))
  dsimp only
  refine wpAny_bind ((looks_typeIn T.K h4).here ?_)
  rw [if_neg (by rcases h5 with rfl | rfl | rfl <;> decide)]
  refine wpAny_bind (wpAny_loadPart ho ?_)
  rcases h6 with e | ⟨d, od, e, hd, hl⟩
  · rw [e]
    exact wpAny_bind (wpAny_rule (wpAny_pure h))
  · rw [e]
    refine wpAny_bind (m := nsGet d name) (wpAny_bind (wpAny_loadPart hd ?_))
    rw [nsLook_of hl]
    exact wpAny_pure (wpAny_bind (wpAny_rule (wpAny_pure h)))

/-- a call of a built-in type's method -/
theorem codeAny_meth {a : Addr} {o : Obj} {rest : List Value} {id owner n : String} {b : Builtin} {R : Result → Shared → Prop} (T : Stat w s.heap) (ho : s.heap.get? a = some o)
    (hsub : Looks (model Pr w) s.heap (isSubtype o.cls (.type owner)) true)
    (hsplit : splitId id = some (owner, n)) (hkind : (Manifest.find? owner).bind (·.attrs.lookup n) = some .slot ∨ (Manifest.find? owner).bind (·.attrs.lookup n) = some .method)
    (hb : entryFor table id = some b) (hp : plainId id = true) (ha : argsOk id ⟨.ref a :: rest, []⟩)
    (h : wpAny (model Pr w) A.in1 (b ⟨.ref a :: rest, []⟩) (fun fin s' => match fin with | .done f => R (.ok f) s' | .again c' => c'.quiet = true ∧ codeAny (model Pr w) A c' R s') (fun e s' => R (.error e) s') s) :
    codeAny (model Pr w) A (.call (.builtin id) ⟨.ref a :: rest, []⟩) R s := by
  have hT : Looks (model Pr w) s.heap (typeOf (.ref a)) o.cls := (Looks.ld ho).andThen .now
  have hk : builtinKind id = (Manifest.find? owner).bind (·.attrs.lookup n) := by simp only [builtinKind, hsplit]
  refine codeAny_call_builtin hp hb ?_
  rcases hkind with e | e <;>
  · simp only [checkBuiltinCall, hk, e, hsplit]
    refine wpAny_bind (wpAny_bind (hT.here (hsub.here ?_)))
    simp only [Bool.not_true, Bool.false_eq_true, if_false]
    cases hsig : Manifest.signature? id with
    | none => exact wpAny_pure h
    | some sig =>
      simp only [argsOk, hsig] at ha
      have h2 : Bind.checkArgs id sig ⟨.ref a :: rest, []⟩ = pure () := ha
      show wpAny _ A.in1 (Bind.checkArgs id sig ⟨.ref a :: rest, []⟩) _ _ s
      rw [h2]; exact wpAny_pure h
end
end Mine
end

section
open PySem PySem.W PySem.Calls PyProof.Rows
namespace Mine

/-- a built-in type's method as the class cls hands it on: what stands fixed of it -/
structure BM (w : World) (cls : Value) (name : Str) (id : String) (b : Builtin) : Prop where
  find : findIn (Kf w) cls name = some (some (.builtin id))
  ty : ∃ tf, typeIn (Kf w) (.builtin id) = some tf ∧ (tf = .type "function" ∨ tf = .type "method_descriptor" ∨ tf = .type "wrapper_descriptor")
  of : ∃ owner n, splitId id = some (owner, n) ∧ ((Manifest.find? owner).bind (·.attrs.lookup n) = some .slot ∨ (Manifest.find? owner).bind (·.attrs.lookup n) = some .method) ∧
    ∀ h, (Kf w).In h → Looks (model Pr w) h (isSubtype cls (.type owner)) true
  entry : entryFor table id = some b
  plain : plainId id = true

section
variable {w : World} {A : Around} {s : Shared} {env : Env}

theorem bm_code {cls : Value} {name : Str} {id : String} {b : Builtin} (M : BM w cls name id b) {a : Addr} {o : Obj} {rest : List Value} {R : Result → Shared → Prop} (T : Stat w s.heap) (ho : s.heap.get? a = some o) (hc : o.cls = cls)
    (ha : argsOk id ⟨.ref a :: rest, []⟩)
    (h : wpAny (model Pr w) A.in1 (b ⟨.ref a :: rest, []⟩) (fun fin s' => match fin with | .done f => R (.ok f) s' | .again c' => c'.quiet = true ∧ codeAny (model Pr w) A c' R s') (fun e s' => R (.error e) s') s) :
    codeAny (model Pr w) A (.call (.builtin id) ⟨.ref a :: rest, []⟩) R s := by
  obtain ⟨owner, n, hs, hk, hsub⟩ := M.of
  exact codeAny_meth T ho (hc ▸ hsub _ T.K) hs hk M.entry M.plain ha h

/-- the result of a call -/
abbrev Rv (Q : Value → Shared → Prop) : Result → Shared → Prop := fun r s' => match r with | .ok (.ret v) => Q v s' | .ok _ => False | .error _ => False
/-- a built-in's own tree: its end -/
abbrev Bd (w : World) (A : Around) (Q : Value → Shared → Prop) : Fin → Shared → Prop := fun fin s' => match fin with | .done (.ret v) => Q v s' | .done _ => False | .again c' => c'.quiet = true ∧ codeAny (model Pr w) A c' (Rv Q) s'

theorem bm_call {cls : Value} {name : Str} {id : String} {b : Builtin} (M : BM w cls name id b) {a : Addr} {o : Obj} {rest : List Value} {Q : Value → Shared → Prop} (T : Stat w s.heap) (ho : s.heap.get? a = some o) (hc : o.cls = cls)
    (ha : argsOk id ⟨.ref a :: rest, []⟩) (h : WA w A.in1 (b ⟨.ref a :: rest, []⟩) (Bd w A Q) s) : WA w A (call (.builtin id) (.ref a :: rest)) Q s := by
  refine wpAny_call (bm_code M T ho hc ha (wpAny_mono h (fun fin s' hf => ?_) fun _ _ x => x.elim))
  rcases fin with (_ | _ | _ | _) | _ <;> first | exact hf | exact hf.elim

theorem bm_bind {cls : Value} {name : Str} {id : String} {b : Builtin} (M : BM w cls name id b) {self : Value} {Q : Value × List Value → Shared → Prop} (T : Stat w s.heap) (h : Q (.builtin id, [self]) s) :
    WA w A (bindSpecial (.builtin id) self) Q s := by
  obtain ⟨tf, h1, h2⟩ := M.ty
  unfold bindSpecial
  refine wpAny_bind ((looks_typeIn T.K h1).here ?_)
  rw [if_pos (by rcases h2 with rfl | rfl | rfl <;> decide)]
  exact wpAny_pure h

theorem bm_special {cls : Value} {name : Str} {id : String} {b : Builtin} (M : BM w cls name id b) {a : Addr} {o : Obj} {rest : List Value} {Q : Option Value → Shared → Prop} (T : Stat w s.heap) (ho : s.heap.get? a = some o) (hc : o.cls = cls)
    (h : WA w A (call (.builtin id) (.ref a :: rest)) (fun v => Q (some v)) s) : WA w A (callSpecial? (.ref a) name rest) Q s := by
  have hT : Looks (model Pr w) s.heap (typeOf (.ref a)) cls := hc ▸ (Looks.ld ho).andThen .now
  unfold callSpecial? specialOf
  refine wpAny_bind (wpAny_bind (hT.here ((looks_findIn T.K M.find).here ?_)))
  dsimp only
  exact wpAny_holding (wpAny_bind (bm_bind M T (wpAny_bind (WA.mono h fun v s' z => wpAny_pure z))))

theorem bm_method {cls : Value} {name : Str} {id : String} {b : Builtin} (M : BM w cls name id b) {a : Addr} {o : Obj} {pl : Sem Bool} {Q : Value × List Value → Shared → Prop} (T : Stat w s.heap) (ho : s.heap.get? a = some o) (hc : o.cls = cls)
    {ga : String} (h1 : findIn (Kf w) cls "__getattribute__" = some (some (.builtin ga))) (hga : (Manifest.canonical ga != "object.__getattribute__") = false) (h2 : findIn (Kf w) cls "__getattr__" = some none)
    (h6 : o.dict = none ∨ ∃ d od, o.dict = some d ∧ s.heap.get? d = some od ∧ lookIn name od = some none)
    (h : Q (.builtin id, [.ref a]) s) : WA w A (getMethod (.ref a) name pl) Q s := by
  obtain ⟨tf, h3, h4⟩ := M.ty
  exact r_getMethod T ho (hc ▸ h1) hga (hc ▸ h2) (hc ▸ M.find) h3 h4 h6 h

theorem sub_list {h : Heap} (X : (Kf w).In h) : Looks (model Pr w) h (isSubtype (.type "list") (.type "list")) true := Looks.of_pure (by rw [isSubtype_type]; kernel_rfl)
theorem sub_dom {h : Heap} (X : (Kf w).In h) : Looks (model Pr w) h (isSubtype (.ref 264) (.type "list")) true := looks_mroIn X (by kernel_rfl)

theorem bmL_append : BM w (.type "list") "append" "list.append" Builtin.«list.append» := ⟨by kernel_rfl, ⟨.type "method_descriptor", by kernel_rfl, by decide⟩, ⟨"list", "append", by decide +kernel, by decide +kernel, fun _ X => sub_list X⟩, entryFor_of_tree (by kernel_rfl), by decide +kernel⟩
theorem bmL_remove : BM w (.type "list") "remove" "list.remove" Builtin.«list.remove» := ⟨by kernel_rfl, ⟨.type "method_descriptor", by kernel_rfl, by decide⟩, ⟨"list", "remove", by decide +kernel, by decide +kernel, fun _ X => sub_list X⟩, entryFor_of_tree (by kernel_rfl), by decide +kernel⟩
theorem bmL_pop : BM w (.type "list") "pop" "list.pop" Builtin.«list.pop» := ⟨by kernel_rfl, ⟨.type "method_descriptor", by kernel_rfl, by decide⟩, ⟨"list", "pop", by decide +kernel, by decide +kernel, fun _ X => sub_list X⟩, entryFor_of_tree (by kernel_rfl), by decide +kernel⟩
theorem bmL_count : BM w (.type "list") "count" "list.count" Builtin.«list.count» := ⟨by kernel_rfl, ⟨.type "method_descriptor", by kernel_rfl, by decide⟩, ⟨"list", "count", by decide +kernel, by decide +kernel, fun _ X => sub_list X⟩, entryFor_of_tree (by kernel_rfl), by decide +kernel⟩
theorem bmL_sort : BM w (.type "list") "sort" "list.sort" Builtin.«list.sort» := ⟨by kernel_rfl, ⟨.type "method_descriptor", by kernel_rfl, by decide⟩, ⟨"list", "sort", by decide +kernel, by decide +kernel, fun _ X => sub_list X⟩, entryFor_of_tree (by kernel_rfl), by decide +kernel⟩
theorem bmD_extend : BM w (.ref 264) "extend" "list.extend" Builtin.«list.extend» := ⟨by kernel_rfl, ⟨.type "method_descriptor", by kernel_rfl, by decide⟩, ⟨"list", "extend", by decide +kernel, by decide +kernel, fun _ X => sub_dom X⟩, entryFor_of_tree (by kernel_rfl), by decide +kernel⟩
theorem bmD_remove : BM w (.ref 264) "remove" "list.remove" Builtin.«list.remove» := ⟨by kernel_rfl, ⟨.type "method_descriptor", by kernel_rfl, by decide⟩, ⟨"list", "remove", by decide +kernel, by decide +kernel, fun _ X => sub_dom X⟩, entryFor_of_tree (by kernel_rfl), by decide +kernel⟩
theorem bmL__len__ : BM w (.type "list") "__len__" "list.__len__" Builtin.«list.__len__» := ⟨by kernel_rfl, ⟨.type "wrapper_descriptor", by kernel_rfl, by decide⟩, ⟨"list", "__len__", by decide +kernel, by decide +kernel, fun _ X => sub_list X⟩, entryFor_of_tree (by kernel_rfl), by decide +kernel⟩
theorem bmL__getitem__ : BM w (.type "list") "__getitem__" "list.__getitem__" Builtin.«list.__getitem__» := ⟨by kernel_rfl, ⟨.type "method_descriptor", by kernel_rfl, by decide⟩, ⟨"list", "__getitem__", by decide +kernel, by decide +kernel, fun _ X => sub_list X⟩, entryFor_of_tree (by kernel_rfl), by decide +kernel⟩
theorem bmL__delitem__ : BM w (.type "list") "__delitem__" "list.__delitem__" Builtin.«list.__delitem__» := ⟨by kernel_rfl, ⟨.type "wrapper_descriptor", by kernel_rfl, by decide⟩, ⟨"list", "__delitem__", by decide +kernel, by decide +kernel, fun _ X => sub_list X⟩, entryFor_of_tree (by kernel_rfl), by decide +kernel⟩
theorem bmL__iter__ : BM w (.type "list") "__iter__" "list.__iter__" Builtin.«list.__iter__» := ⟨by kernel_rfl, ⟨.type "wrapper_descriptor", by kernel_rfl, by decide⟩, ⟨"list", "__iter__", by decide +kernel, by decide +kernel, fun _ X => sub_list X⟩, entryFor_of_tree (by kernel_rfl), by decide +kernel⟩
theorem bmL__contains__ : BM w (.type "list") "__contains__" "list.__contains__" Builtin.«list.__contains__» := ⟨by kernel_rfl, ⟨.type "wrapper_descriptor", by kernel_rfl, by decide⟩, ⟨"list", "__contains__", by decide +kernel, by decide +kernel, fun _ X => sub_list X⟩, entryFor_of_tree (by kernel_rfl), by decide +kernel⟩
theorem bmD__len__ : BM w (.ref 264) "__len__" "list.__len__" Builtin.«list.__len__» := ⟨by kernel_rfl, ⟨.type "wrapper_descriptor", by kernel_rfl, by decide⟩, ⟨"list", "__len__", by decide +kernel, by decide +kernel, fun _ X => sub_dom X⟩, entryFor_of_tree (by kernel_rfl), by decide +kernel⟩
theorem bmD__getitem__ : BM w (.ref 264) "__getitem__" "list.__getitem__" Builtin.«list.__getitem__» := ⟨by kernel_rfl, ⟨.type "method_descriptor", by kernel_rfl, by decide⟩, ⟨"list", "__getitem__", by decide +kernel, by decide +kernel, fun _ X => sub_dom X⟩, entryFor_of_tree (by kernel_rfl), by decide +kernel⟩

theorem can_list : (Manifest.canonical "list.__getattribute__" != "object.__getattribute__") = false := by decide +kernel
theorem ga_list : findIn (Kf w) (.type "list") "__getattribute__" = some (some (.builtin "list.__getattribute__")) := by kernel_rfl
theorem gh_list : findIn (Kf w) (.type "list") "__getattr__" = some none := by kernel_rfl
theorem ga_dom : findIn (Kf w) (.ref 264) "__getattribute__" = some (some (.builtin "list.__getattribute__")) := by kernel_rfl
theorem gh_dom : findIn (Kf w) (.ref 264) "__getattr__" = some none := by kernel_rfl
end
end Mine
end

section
open PySem PySem.W PySem.Calls PyProof.Rows
namespace Mine

abbrev seqO (cls : Value) (d : Option Addr) (xs : List Value) (n : Nat) : Obj := { cls := cls, dict := d, data := .seq xs.toArray n, slots := #[] }
abbrev listO (xs : List Value) (n : Nat) : Obj := seqO (.type "list") none xs n
abbrev domO (d : Addr) (xs : List Value) (n : Nat) : Obj := seqO (.ref 264) (some d) xs n
abbrev tupO (xs : List Value) : Obj := seqO (.type "tuple") none xs 0

def IsSeq (cls : Value) (d : Option Addr) (xs : List Value) (o : Obj) : Prop := ∃ n, o = seqO cls d xs n
abbrev LstI (xs : List Value) : Obj → Prop := IsSeq (.type "list") none xs
abbrev DomI (dd : Addr) (xs : List Value) : Obj → Prop := IsSeq (.ref 264) (some dd) xs
abbrev TupI (xs : List Value) : Obj → Prop := IsSeq (.type "tuple") none xs
theorem Has.seq {h : Heap} {a : Addr} {cls : Value} {d : Option Addr} {xs : List Value} {n : Nat} (e : h.get? a = some (seqO cls d xs n)) : Has h a (IsSeq cls d xs) := ⟨_, e, n, rfl⟩
theorem Has.out {h : Heap} {a : Addr} {cls : Value} {d : Option Addr} {xs : List Value} (e : Has h a (IsSeq cls d xs)) : ∃ n, h.get? a = some (seqO cls d xs n) := by
  obtain ⟨_, e, n, rfl⟩ := e
  exact ⟨n, e⟩

theorem mapSeq_seqO {cls : Value} {d : Option Addr} {xs : List Value} {n : Nat} (f : Array Value → Array Value) :
    Obj.mapSeq f (seqO cls d xs n) = seqO cls d (f xs.toArray).toList (if (f xs.toArray).size == xs.length then n else n + 1) := by
  simp [Obj.mapSeq]

section
variable {w : World} {A : Around} {s : Shared} {env : Env}

/-- the sequence's items are turned by a function -/
theorem b_update {a : Addr} {cls : Value} {d : Option Addr} {xs : List Value} {f : Array Value → Array Value} {Q : Unit → Shared → Prop} (ho : Has s.heap a (IsSeq cls d xs))
    (hz : xs.length ≤ 1000) (hz' : (f xs.toArray).size ≤ 1000)
    (h : ∀ h', Has h' a (IsSeq cls d (f xs.toArray).toList) → Heap.SameBut a s.heap h' → Q () { s with heap := h' }) : WA w A (updateSeq a f) Q s := by
  obtain ⟨n, ho⟩ := ho.out
  refine wpAny_updateSeq ho rfl (h _ (Has.seq (n := if (f xs.toArray).size == xs.length then n else n + 1) ?_) (Heap.SameBut.update ..)) (by rw [sizeLine_eq, List.size_toArray]; omega) (by rw [sizeLine_eq]; omega)
  rw [Heap.get?_update_self _ ho (by rw [mapSeq_seqO]; rfl), mapSeq_seqO]

theorem b_append {a : Addr} {xs : List Value} {x : Value} {Q : Value → Shared → Prop} (T : Stat w s.heap) (ho : Has s.heap a (LstI xs)) (hz : xs.length ≤ 900)
    (h : ∀ h', Has h' a (LstI (xs ++ [x])) → Heap.SameBut a s.heap h' → Q .none { s with heap := h' }) : WA w A (call (.builtin "list.append") [.ref a, x]) Q s := by
  obtain ⟨n, ho'⟩ := ho.out
  refine bm_call bmL_append T ho' rfl (by unfold argsOk; kernel_rfl) ?_
  show wpAny _ _ (updateSeq a (·.push x) >>= fun _ => ret .none) _ _ s
  refine wpAny_bind (b_update ho (by omega) (by simp; omega) fun h' h1 h2 => wpAny_pure (h h' (by simpa using h1) h2))

theorem b_extend {d l : Addr} {dd : Option Addr} {xs ys : List Value} {Q : Value → Shared → Prop} (T : Stat w s.heap) (ho : Has s.heap d (IsSeq (.ref 264) dd xs)) (hl : Has s.heap l (LstI ys)) (hne : d ≠ l) (hz : xs.length + ys.length ≤ 900)
    (h : ∀ h', Has h' d (IsSeq (.ref 264) dd (xs ++ ys)) → Heap.SameBut d s.heap h' → Q .none { s with heap := h' }) : WA w A (call (.builtin "list.extend") [.ref d, .ref l]) Q s := by
  obtain ⟨n, ho'⟩ := ho.out
  obtain ⟨k, hl⟩ := hl.out
  refine bm_call bmD_extend T ho' rfl (by unfold argsOk; kernel_rfl) ?_
  show wpAny _ _ (Builtin.List.listExtendWith (.ref d) (.ref l) .none) _ _ s
  unfold Builtin.List.listExtendWith
  refine wpAny_bind (Looks.here (r := .type "list") ((Looks.ld hl).andThen .now) ?_)
  rw [if_pos (by simp)]
  refine wpAny_bind (wpAny_bind (wpAny_seqItems hl rfl (wpAny_pure ?_)))
  refine wpAny_bind (wpAny_bind (wpAny_seqItems ho' rfl (wpAny_pure ?_)))
  rw [if_neg (by simp [Builtin.List.listTooLong, sizeLine]; omega)]
  show wpAny _ _ (updateSeq d (· ++ ys.toArray) >>= fun _ => ret .none) _ _ s
  refine wpAny_bind (b_update ho (by omega) (by simp; omega) fun h' h1 h2 => wpAny_pure (h h' (by simpa using h1) h2))

theorem b_pop {a : Addr} {xs : List Value} {x : Value} {Q : Value → Shared → Prop} (T : Stat w s.heap) (ho : Has s.heap a (LstI (xs ++ [x]))) (hz : xs.length ≤ 900)
    (h : ∀ h', Has h' a (LstI xs) → Heap.SameBut a s.heap h' → Q x { s with heap := h' }) : WA w A (call (.builtin "list.pop") [.ref a]) Q s := by
  obtain ⟨n, ho'⟩ := ho.out
  refine bm_call bmL_pop T ho' rfl (by unfold argsOk; kernel_rfl) ?_
  show wpAny _ _ (do
    let xs ← Builtin.List.listItems (.ref a)
    if xs.isEmpty then rule "list.pop.empty"; raiseError "IndexError" "pop from empty list"
    match (seqIndex? (-1) xs.size).bind fun k => xs[k]?.map (k, ·) with
    | some (k, x) => Builtin.List.listUpdate (.ref a) (·.eraseIdxIfInBounds k); ret x
    | none => rule "list.pop.out-of-range"; raiseError "IndexError" "pop index out of range") _ _ s
  refine wpAny_bind (wpAny_bind (wpAny_seqItems ho' rfl (wpAny_pure ?_)))
  rw [if_neg (by simp)]
  have e : ((seqIndex? (-1) (xs ++ [x]).toArray.size).bind fun k => (xs ++ [x]).toArray[k]?.map (k, ·)) = some (xs.length, x) := by
    have : seqIndex? (-1) (xs ++ [x]).toArray.size = some xs.length := by
      unfold seqIndex?
      simp
      omega
    rw [this]
    simp
  show wpAny _ _ (match ((seqIndex? (-1) (xs ++ [x]).toArray.size).bind fun k => (xs ++ [x]).toArray[k]?.map (k, ·)) with
    | some (k, x) => _ | none => _) _ _ s
  rw [e]
  show wpAny _ _ (updateSeq a (·.eraseIdxIfInBounds xs.length) >>= fun _ => ret x) _ _ s
  have e2 : ((xs ++ [x]).toArray.eraseIdxIfInBounds xs.length).toList = xs := by
    rw [Array.toList_eraseIdxIfInBounds]
    show (xs ++ [x]).eraseIdx xs.length = xs
    rw [List.eraseIdx_append_of_length_le (Nat.le_refl _), Nat.sub_self]
    simp
  refine wpAny_bind (b_update ho (by simp; omega) (by rw [← Array.length_toList, e2]; omega) fun h' h1 h2 => wpAny_pure (h h' (by rw [e2] at h1; exact h1) h2))

/-- the loop of list.remove, over ints: the first place that holds k -/
theorem c_remove {cls : Value} {d : Option Addr} {a : Addr} {k : Int} {t u : Tok} {post : List Value} {R : Result → Shared → Prop} (pre : List Value) (hpre : ∀ v ∈ pre, ∃ i t, v = .int i t ∧ i ≠ k)
    (ho : Has s.heap a (IsSeq cls d (pre ++ .int k t :: post))) (hz : (pre ++ .int k t :: post).length ≤ 900)
    (h : ∀ h' tk, Has h' a (IsSeq cls d (pre ++ post)) → Heap.SameBut a s.heap h' → R (.ok (.ret .none)) { s with heap := h', toks := tk }) (j : Nat) (m : Nat) (hj : j + m = pre.length) :
    ∀ tk, codeAny (model Pr w) A (.builtin "list.remove.loop" ⟨[.ref a, .int k u, rawInt (j : Int)], []⟩) R { s with toks := tk } := by
  obtain ⟨n, ho'⟩ := ho.out
  induction m generalizing j with
  | zero =>
    intro tk
    refine codeAny_builtin (b := Builtin.«list.remove.loop») (entryFor_of_tree (by kernel_rfl)) ?_
    show wpAny _ _ (Builtin.List.listItems (.ref a) >>= _) _ _ _
    refine wpAny_bind (m := Builtin.List.listItems (.ref a)) (wpAny_bind (wpAny_seqItems ho' rfl (wpAny_pure ?_)))
    have hjj : (j : Int).toNat = pre.length := by omega
    have e : (pre ++ Value.int k t :: post).toArray[(j : Int).toNat]? = some (.int k t) := by
      rw [hjj, List.getElem?_toArray, List.getElem?_append_right (Nat.le_refl _), Nat.sub_self]
      rfl
    dsimp only [rawInt]
    rw [e]
    dsimp only
    refine wpAny_bind (wpAny_eqBool_int ?_)
    rw [if_pos (by simp)]
    have e2 : ((pre ++ Value.int k t :: post).toArray.eraseIdxIfInBounds (j : Int).toNat).toList = pre ++ post := by
      rw [hjj, Array.toList_eraseIdxIfInBounds]
      show (pre ++ _ :: post).eraseIdx pre.length = _
      rw [List.eraseIdx_append_of_length_le (Nat.le_refl _), Nat.sub_self]
      rfl
    have hl : (pre ++ post).length + 1 = (pre ++ Value.int k t :: post).length := by simp; omega
    refine wpAny_bind (m := updateSeq a (·.eraseIdxIfInBounds (j : Int).toNat)) (wpAny_mono (b_update (w := w) (A := A.under (.builtin "list.remove.loop" ⟨[.ref a, .int k u, rawInt (j : Int)], []⟩)) (s := { s with toks := _ }) ho (by omega) (by rw [← Array.length_toList, e2]; omega) (Q := fun _ s' => R (.ok (.ret .none)) s') fun h' h1 h2 => ?_) (fun _ s' hq => wpAny_pure hq) fun _ _ x => x.elim)
    rw [e2] at h1
    exact h h' _ h1 h2
  | succ m ih =>
    intro tk
    refine codeAny_builtin (b := Builtin.«list.remove.loop») (entryFor_of_tree (by kernel_rfl)) ?_
    show wpAny _ _ (Builtin.List.listItems (.ref a) >>= _) _ _ _
    refine wpAny_bind (m := Builtin.List.listItems (.ref a)) (wpAny_bind (wpAny_seqItems ho' rfl (wpAny_pure ?_)))
    have hjj : (j : Int).toNat = j := by omega
    have hlt : j < pre.length := by omega
    obtain ⟨i, t', hv, hne⟩ := hpre pre[j] (List.getElem_mem hlt)
    have e : (pre ++ Value.int k t :: post).toArray[(j : Int).toNat]? = some (.int i t') := by
      rw [hjj, List.getElem?_toArray, List.getElem?_append_left hlt, List.getElem?_eq_getElem hlt, hv]
    dsimp only [rawInt]
    rw [e]
    dsimp only
    refine wpAny_bind (wpAny_eqBool_int ?_)
    rw [if_neg (by simpa using hne)]
    refine wpAny_pure ?_
    refine ⟨plainId_quiet (by decide +kernel) _, ?_⟩
    have := ih (j + 1) (by omega) tk
    rw [show (((j + 1 : Nat) : Int)) = (j : Int) + 1 from by omega] at this
    exact this

theorem b_removeD {cls : Value} {b : String} {d : Option Addr} {a : Addr} {k : Int} {t u : Tok} {pre post : List Value} {Q : Value → Shared → Prop} (T : Stat w s.heap) (M : BM w cls "remove" "list.remove" Builtin.«list.remove»)
    (ho : Has s.heap a (IsSeq cls d (pre ++ .int k t :: post))) (hpre : ∀ v ∈ pre, ∃ i t, v = .int i t ∧ i ≠ k) (hz : (pre ++ .int k t :: post).length ≤ 900)
    (h : ∀ h' tk, Has h' a (IsSeq cls d (pre ++ post)) → Heap.SameBut a s.heap h' → Q .none { s with heap := h', toks := tk }) : WA w A (call (.builtin "list.remove") [.ref a, .int k u]) Q s := by
  obtain ⟨n, ho'⟩ := ho.out
  refine bm_call M T ho' rfl (by unfold argsOk; kernel_rfl) ?_
  show wpAny _ _ (pure (Fin.again (.builtin "list.remove.loop" ⟨[.ref a, .int k u, rawInt ((0 : Nat) : Int)], []⟩))) _ _ s
  exact wpAny_pure ⟨plainId_quiet (by decide +kernel) _, c_remove pre hpre ho hz (R := Rv Q) (fun h' tk h1 h2 => h h' tk h1 h2) 0 pre.length (Nat.zero_add _) s.toks⟩

/-- len of a sequence of either class -/
theorem b_lenBody {cls : Value} {d : Option Addr} {a : Addr} {xs : List Value} {Q : Value → Shared → Prop} (T : Stat w s.heap) (M : BM w cls "__len__" "list.__len__" Builtin.«list.__len__»)
    (ho : Has s.heap a (IsSeq cls d xs)) (hz : xs.length ≤ 1000) (h : ∀ t s', Grow s s' → Q (.int xs.length t) s') :
    WA w A (Builtin.«len» ⟨[.ref a], []⟩) (fun fin s' => ∃ v, fin = .done (.ret v) ∧ Q v s') s := by
  obtain ⟨n, ho'⟩ := ho.out
  unfold Builtin.«len»
  refine wpAny_bind (m := oneArg "len" _) (wpAny_pure ?_)
  refine wpAny_bind (m := callSpecial? (.ref a) (Str.ofString "__len__")) (bm_special M T ho' rfl (bm_call M T ho' rfl (by unfold argsOk; kernel_rfl) ?_))
  show wpAny _ _ (do retInt (← seqSize a)) _ _ s
  unfold seqSize
  refine wpAny_bind (wpAny_bind (wpAny_load ho' ?_))
  refine wpAny_pure (wpAny_bind (wpAny_mkInt (wpAny_pure ?_)))
  show wpAny _ _ _ _ _ _
  refine wpAny_bind (wpAny_holding (wpAny_pure ?_))
  refine wpAny_bind (wpAny_letGo ?_)
  rw [List.size_toArray]
  show wpAny _ _ (if ((xs.length : Nat) : Int) < 0 then _ else _) _ _ _
  rw [if_neg (by omega)]
  show wpAny _ _ (if ((xs.length : Nat) : Int) ≥ 2 ^ 63 then _ else _) _ _ _
  rw [if_neg (by omega)]
  exact wpAny_bind (wpAny_mkInt (wpAny_pure ⟨_, rfl, h _ _ (Grow.tok s _)⟩))
theorem b_len {cls : Value} {d : Option Addr} {a : Addr} {xs : List Value} {Q : Value → Shared → Prop} (T : Stat w s.heap) (M : BM w cls "__len__" "list.__len__" Builtin.«list.__len__»)
    (ho : Has s.heap a (IsSeq cls d xs)) (hz : xs.length ≤ 1000) (h : ∀ t s', Grow s s' → Q (.int xs.length t) s') : WA w A (call (.builtin "len") [.ref a]) Q s :=
  call_function_entry kind_len plain_len entry_len (args_len1 _) (b_lenBody T M ho hz h)

/-- truth of a sequence -/
theorem b_truth {cls : Value} {d : Option Addr} {a : Addr} {xs : List Value} {Q : Bool → Shared → Prop} (T : Stat w s.heap) (M : BM w cls "__len__" "list.__len__" Builtin.«list.__len__»)
    (hb : findIn (Kf w) cls "__bool__" = some none)
    (ho : Has s.heap a (IsSeq cls d xs)) (hz : xs.length ≤ 1000) (h : ∀ s', Grow s s' → Q (!xs.isEmpty) s') : WA w A (truthy (.ref a)) Q s := by
  obtain ⟨n, ho'⟩ := ho.out
  have hT : Looks (model Pr w) s.heap (typeOf (.ref a)) cls := (Looks.ld ho').andThen .now
  unfold truthy
  refine wpAny_bind (m := callSpecial? (.ref a) (Str.ofString "__bool__")) (wpAny_bind (wpAny_bind (hT.here ((looks_findIn T.K hb).here (wpAny_pure ?_)))))
  refine wpAny_bind (wpAny_bind (hT.here ((looks_findIn T.K M.find).here ?_)))
  rw [if_neg (by simp)]
  refine wpAny_bind (wpAny_runValue (codeAny_builtin entry_len ?_))
  rw [Around.under_plainId plain_len _]
  refine wpAny_mono (b_lenBody T M ho hz fun t s' g => ?_) (fun fin s' hf => by obtain ⟨v, rfl, hv⟩ := hf; exact hv) fun _ _ x => x.elim
  refine wpAny_pure ?_
  have e : ((xs.length : Int) != 0) = !xs.isEmpty := by cases xs <;> simp <;> omega
  rw [e]
  exact h s' g
end
end Mine
end

section
open PySem PySem.W PySem.Calls PyProof.Rows
namespace Mine
abbrev sliceO (l u st : Value) : Obj := { cls := .type "slice", data := .fields #[l, u, st] }

section
variable {w : World} {A : Around} {s : Shared} {env : Env}

/-- a class whose items are asked by a built-in's __getitem__ -/
structure SK (w : World) (cls : Value) : Prop where
  key : ∀ (A : Around) (s : Shared) (a : Addr) (o : Obj) (k : Value) (name : Str) (Q : Value → Shared → Prop), (Kf w).In s.heap → s.heap.get? a = some o → o.cls = cls → Q k s → WA w A (sequenceKey (.ref a) k name) Q s
theorem sk_type {n : String} (hn : seqItemTypes.contains n = false) : SK w (.type n) := ⟨fun A s a o k name Q X ho hc h => by
  unfold sequenceKey
  refine wpAny_bind (Looks.here (r := .type n) (hc ▸ (Looks.ld ho).andThen .now) ?_)
  dsimp only
  rw [hn]
  exact wpAny_pure h⟩
theorem dom_noSeq : (seqItemTypes.all fun n => subIn (Kf w) (.ref 264) (.type n) == some false) = true := by
  simp only [seqItemTypes, List.all_cons, List.all_nil, Bool.and_true]
  rw [show subIn (Kf w) (.ref 264) (.type "collections.deque") = some false from by kernel_rfl]
  rfl
theorem sk_dom : SK w (.ref 264) := ⟨fun A s a o k name Q X ho hc h => by
  unfold sequenceKey
  refine wpAny_bind (Looks.here (r := .ref 264) (hc ▸ (Looks.ld ho).andThen .now) ?_)
  dsimp only
  refine wpAny_bind ((anyM_none X dom_noSeq).here ?_)
  rw [if_pos (show (!false) = true from rfl)]
  exact wpAny_pure h⟩

theorem g_getItem {a : Addr} {o : Obj} {cls k : Value} {id : String} {b : Builtin} {Q : Value → Shared → Prop} (T : Stat w s.heap) (ho : s.heap.get? a = some o) (hc : o.cls = cls) (K : SK w cls) (M : BM w cls "__getitem__" id b)
    (h : WA w A (call (.builtin id) [.ref a, k]) Q s) : WA w A (getItem (.ref a) k) Q s := by
  unfold getItem
  refine wpAny_holding (wpAny_bind (K.key A s a o k _ _ T.K ho hc ?_))
  exact wpAny_bind (bm_special M T ho hc (WA.mono h fun v s' z => wpAny_pure z))

theorem g_sub {value slice : Expr} {pos : Pos} {Q : Value → Shared → Prop}
    (h : WA w A (eval value env) (fun o s₁ => WA w A (eval slice env) (fun i s₂ => Looks (model Pr w) s₂.heap (getitemInPython o) false ∧ WA w A (getItem o i) Q s₂) s₁) s)
    (hs : ∀ o i, ∃ l, subscripted slice false o i = operate l (getItem o i)) : WA w A (eval (.Subscript value slice pos) env) Q s := by
  rw [eval_Subscript]
  refine wpAny_bind (WA.mono h fun o s₁ h₁ => wpAny_bind (wpAny_holding (WA.mono h₁ fun i s₂ h₂ => wpAny_bind (wpAny_standAt ?_))))
  obtain ⟨l, hl⟩ := hs o i
  refine wpAny_bind (h₂.1.here ?_)
  rw [hl]
  exact wpAny_bind (wpAny_operating (WA.mono h₂.2 fun r s₃ h₃ => wpAny_bind (wpAny_letTemporaryGo (wpAny_pure h₃))))

theorem inPy {a : Addr} {o : Obj} {cls : Value} {id : String} {b : Builtin} {h : Heap} (X : (Kf w).In h) (ho : h.get? a = some o) (hc : o.cls = cls) (M : BM w cls "__getitem__" id b) :
    Looks (model Pr w) h (getitemInPython (.ref a)) false := by
  have hT : Looks (model Pr w) h (typeOf (.ref a)) cls := hc ▸ (Looks.ld ho).andThen .now
  unfold getitemInPython specialOf
  exact (hT.andThen (looks_findIn X M.find)).andThen .now

theorem bs_body {a sl : Addr} {cls : Value} {d : Option Addr} {xs : List Value} {n : Nat} {vl vu : Value} {lo hi : Option Int} {Q : Value → Shared → Prop} (T : Stat w s.heap) (ho : s.heap.get? a = some (seqO cls d xs n))
    (M : BM w cls "__getitem__" "list.__getitem__" Builtin.«list.__getitem__»)
    (hs : s.heap.get? sl = some (sliceO vl vu .none)) (pl : IsPart vl lo) (pu : IsPart vu hi) (hz : xs.length ≤ 1000)
    (h : ∀ l s', Grow s s' → Has s'.heap l (LstI (slicePick xs.toArray lo hi none).toList) → s.heap.get? l = none → Q (.ref l) s') : WA w A (call (.builtin "list.__getitem__") [.ref a, .ref sl]) Q s := by
  have hTs : s.TypeIs (.ref sl) "slice" := ⟨_, hs, rfl⟩
  refine bm_call M T ho rfl (by unfold argsOk; kernel_rfl) ?_
  show wpAny _ _ (Builtin.List.listSubscript? (.ref sl) >>= _) _ _ s
  refine wpAny_bind ?_
  unfold Builtin.List.listSubscript?
  refine wpAny_bind (wpAny_specialOf hTs slice_no_index ?_)
  simp only [Option.isNone_none, if_true]
  refine wpAny_pure ?_
  show wpAny _ _ (typeOf (.ref sl) >>= _) _ _ s
  refine wpAny_bind (wpAny_typeOf hTs ?_)
  rw [if_neg (by decide)]
  rw [listSliceParts_eq]
  refine wpAny_bind (wpAny_bind (wpAny_field hs rfl (x := .none) rfl (wpAny_bind (wpAny_listPart .none ?_))))
  rw [if_neg (by exact Bool.false_ne_true)]
  refine wpAny_bind (wpAny_field hs rfl (x := vl) rfl (wpAny_bind (wpAny_listPart pl ?_)))
  refine wpAny_bind (wpAny_field hs rfl (x := vu) rfl (wpAny_bind (wpAny_listPart pu (wpAny_pure ?_))))
  refine wpAny_bind (m := Builtin.List.listItems (.ref a)) ?_
  unfold Builtin.List.listItems
  refine wpAny_bind (wpAny_seqItems ho rfl (wpAny_pure ?_))
  refine wpAny_bind (wpAny_of_eq (sliceIndices_raw lo hi none xs.toArray.size (by simp)) ?_)
  have hsz : (slicePick xs.toArray lo hi none).size ≤ xs.length := Nat.le_trans (slicePick_size_le _ _ _ _) (Nat.le_of_eq (List.size_toArray ..))
  refine wpAny_bind (wpAny_newObj_type (wpAny_pure ?_) (by show (slicePick xs.toArray lo hi none).size ≤ sizeLine; rw [sizeLine_eq]; omega))
  refine h _ _ (Grow.alloc s _) ?_ (Heap.get?_none_of_le (Nat.le_refl _))
  exact Has.seq (Heap.get?_push_size _ rfl)

/-- value[lower:upper] of a list or of a list's subclass -/
theorem r_slice {value : Expr} {lower upper : Option Expr} {p pos : Pos} {Q : Value → Shared → Prop}
    (h : WA w A (eval value env) (fun o s₁ => WA w A (evalPart lower env) (fun vl s₂ => WA w A (evalPart upper env) (fun vu s₃ =>
      ∃ a cls d xs lo hi, o = .ref a ∧ Stat w s₃.heap ∧ Has s₃.heap a (IsSeq cls d xs) ∧ SK w cls ∧ BM w cls "__getitem__" "list.__getitem__" Builtin.«list.__getitem__» ∧ IsPart vl lo ∧ IsPart vu hi ∧ xs.length ≤ 1000 ∧
        ∀ l s', Grow s₃ s' → Has s'.heap l (LstI (slicePick xs.toArray lo hi none).toList) → s₃.heap.get? l = none → Q (.ref l) s') s₂) s₁) s) :
    WA w A (eval (.Subscript value (.Slice lower upper none p) pos) env) Q s := by
  refine g_sub (WA.mono h fun o s₁ h₁ => wpAny_Slice (WA.mono h₁ fun vl s₂ h₂ => WA.mono h₂ fun vu s₃ h₃ => ?_)) fun o i => ⟨[i, o], by with_unfolding_all rfl⟩
  obtain ⟨a, cls, d, xs, lo, hi, rfl, T, ho, K, M, pl, pu, hz, hQ⟩ := h₃
  obtain ⟨n, ho⟩ := ho.out
  refine wpAny_pure ?_
  have k : ∀ b o, s₃.heap.get? b = some o → (s₃.heap.push (sliceO vl vu .none)).get? b = some o := fun _ _ e => Heap.get?_push_of_some _ e
  have ho' := k _ _ ho
  refine ⟨inPy (T.K.keeps k) ho' rfl M, g_getItem (T.mono k) ho' rfl K M (bs_body (s := { s₃ with heap := s₃.heap.push (sliceO vl vu .none) }) (T.mono k) ho' M (Heap.get?_push_size _ rfl) pl pu hz fun l s' g e hl => hQ l s' ((Grow.alloc s₃ _).trans g) e ?_)⟩
  exact (Sub.push _ _).none hl

theorem pick_last (xs : List Value) (k : Nat) (hk : 0 < k) (hk2 : k ≤ xs.length) : (slicePick xs.toArray (some (-(k : Int))) none none).toList = xs.drop (xs.length - k) := by
  have e : slicePick xs.toArray (some (-(k : Int))) none none = slicePick xs.toArray (some ((xs.length - k : Nat) : Int)) none none := by
    unfold slicePick
    have : sliceBounds (some (-(k : Int))) none none xs.toArray.size = sliceBounds (some ((xs.length - k : Nat) : Int)) none none xs.toArray.size := by
      simp only [sliceBounds, List.size_toArray, Option.getD_none]
      congr 1
      simp only [show (1 : Int) > 0 from by decide, if_true]
      rw [if_pos (by omega), if_neg (by omega)]
      omega
    rw [this]
  rw [e, slicePick_from _ _ (by simp)]

/-- del value[lower:upper] -/
theorem del_filter {a b : Int} (p : Nat → Bool) (hp : ∀ k : Nat, p k = (decide (a ≤ (k : Int)) && decide ((k : Int) < b) && (((k : Int) - a) % 1 == 0))) (xs : List Value) (i : Nat) (ha : a = i) (hb : b = xs.length) (hi : i ≤ xs.length) :
    (xs.zipIdx.filterMap fun x => if p x.2 = true then none else some x.1) = xs.take i := by
  have hp' : ∀ k : Nat, k < xs.length → p k = decide (i ≤ k) := by
    intro k hk
    rw [hp k, ha, hb]
    simp [hk]
  have key : ∀ (l : List Value) (j : Nat), j + l.length ≤ xs.length → (((l.zipIdx j).filterMap fun x => if p x.2 = true then none else some x.1) = l.take (i - j)) := by
    intro l
    induction l with
    | nil => intro j _; simp
    | cons v r ih =>
      intro j hj
      simp only [List.length_cons] at hj
      rw [List.zipIdx_cons, List.filterMap_cons, hp' j (by omega)]
      by_cases h : i ≤ j
      · have : i - j = 0 := by omega
        simp only [h, decide_true, if_true, this, List.take_zero]
        rw [ih (j + 1) (by omega)]
        have : i - (j + 1) = 0 := by omega
        rw [this, List.take_zero]
      · have e : i - j = (i - (j + 1)) + 1 := by omega
        simp only [h, decide_false, Bool.false_eq_true, if_false]
        rw [ih (j + 1) (by omega), e, List.take_succ_cons]
  have := key xs 0 (by omega)
  rwa [Nat.sub_zero] at this

theorem b_delSlice {a sl : Addr} {xs : List Value} {vl : Value} {lo : Option Int} {i : Nat} {Q : Unit → Shared → Prop} (T : Stat w s.heap) (ho : Has s.heap a (LstI xs))
    (hs : s.heap.get? sl = some (sliceO vl .none .none)) (pl : IsPart vl lo) (hz : xs.length ≤ 900) (hi : i ≤ xs.length) (hb : sliceBounds lo none none xs.length = ((i : Int), (xs.length : Int), 1))
    (h : ∀ h', Has h' a (LstI (xs.take i)) → Heap.SameBut a s.heap h' → Q () { s with heap := h' }) : WA w A (delItem (.ref a) (.ref sl)) Q s := by
  have hO := ho
  obtain ⟨n, ho⟩ := ho.out
  have hTs : s.TypeIs (.ref sl) "slice" := ⟨_, hs, rfl⟩
  unfold delItem
  refine wpAny_holding (wpAny_bind ((sk_type (by decide)).key A s a _ _ _ _ T.K ho rfl ?_))
  refine wpAny_bind (bm_special bmL__delitem__ T ho rfl (bm_call bmL__delitem__ T ho rfl (by unfold argsOk; kernel_rfl) ?_))
  show wpAny _ _ (Builtin.List.listSubscript? (.ref sl) >>= _) _ _ s
  refine wpAny_bind ?_
  unfold Builtin.List.listSubscript?
  refine wpAny_bind (wpAny_specialOf hTs slice_no_index ?_)
  simp only [Option.isNone_none, if_true]
  refine wpAny_pure ?_
  show wpAny _ _ (typeOf (.ref sl) >>= _) _ _ s
  refine wpAny_bind (wpAny_typeOf hTs ?_)
  rw [if_neg (by decide)]
  rw [listSliceParts_eq]
  refine wpAny_bind (wpAny_bind (wpAny_field hs rfl (x := .none) rfl (wpAny_bind (wpAny_listPart .none ?_))))
  rw [if_neg (by exact Bool.false_ne_true)]
  refine wpAny_bind (wpAny_field hs rfl (x := vl) rfl (wpAny_bind (wpAny_listPart pl ?_)))
  refine wpAny_bind (wpAny_field hs rfl (x := .none) rfl (wpAny_bind (wpAny_listPart .none (wpAny_pure ?_))))
  refine wpAny_bind (m := Builtin.List.listItems (.ref a)) ?_
  unfold Builtin.List.listItems
  refine wpAny_bind (wpAny_seqItems ho rfl (wpAny_pure ?_))
  refine wpAny_bind (wpAny_of_eq (sliceIndices_raw lo none none xs.toArray.size (by simp)) ?_)
  rw [List.size_toArray, hb]
  dsimp only
  refine wpAny_bind (wpAny_rule ?_)
  refine wpAny_bind (m := Builtin.List.listUpdate (.ref a) _) ?_
  have e := del_filter (a := (i : Int)) (b := (xs.length : Int)) _ (fun k => rfl) xs i rfl rfl hi
  refine b_update hO (by omega) ?_ ?_
  · rw [List.size_toArray]
    refine Nat.le_trans (List.length_filterMap_le _ _) (by simp; omega)
  intro h' h1 h2
  refine wpAny_bind (wpAny_letGo (wpAny_pure (wpAny_pure (h h' ?_ h2))))
  obtain ⟨o, ho1, n1, ho2⟩ := h1
  exact ⟨o, ho1, n1, ho2.trans (congrArg (fun z => seqO (.type "list") none z n1) (by simp; exact e))⟩
end
end Mine
end

section
open PySem PySem.W PySem.Calls PyProof.Rows Builtin Builtin.ObjectAttr
namespace Mine
abbrev attrE (w : World) (name : Str) (t : Nat) (v : Value) : DictEntry := ⟨PyData.keyHash w.params name, .str name t, v⟩

section
variable {w : World} {A : Around} {s : Shared} {env : Env}

theorem bmD_ga : BM w (.ref 264) "__getattribute__" "list.__getattribute__" Builtin.«object.__getattribute__» :=
  ⟨by kernel_rfl, ⟨.type "wrapper_descriptor", by kernel_rfl, by decide⟩, ⟨"list", "__getattribute__", by decide +kernel, by decide +kernel, fun _ X => sub_dom X⟩, am_entry_list_getattribute, by decide +kernel⟩

/-- an attribute of a list's subclass's object -/
theorem b_domAttr {x dx : Addr} {ox od : Obj} {name : Str} {v : Value} {expr : Bool} {Q : Value → Shared → Prop} (T : Stat w s.heap) (hx : s.heap.get? x = some ox) (hc : ox.cls = .ref 264) (hd : ox.dict = some dx) (hno : notCls ox = true)
    (hdx : s.heap.get? dx = some od) (hf : findObj (Kf w) 264 (some od) name = some (.value v)) (hv : handedIn v = true) (h : ∀ s', Grow s s' → Q v s') : WA w A (getAttr (.ref x) name expr) Q s := by
  have G := Grow.tok s (s.toks + 1)
  have T' : Stat w ({ s with toks := s.toks + 1 } : Shared).heap := T
  have hT : Looks (model Pr w) s.heap (typeOf (.ref x)) (.ref 264) := hc ▸ (Looks.ld hx).andThen .now
  have I : InstAt s.heap x ox 264 (some od) := ⟨hx, hc, hno, by rw [hd]; exact hdx⟩
  unfold getAttr getAttrBy
  refine wpAny_bind (wpAny_mkText (wpAny_holding (wpAny_bind (hT.at (wpAny_bind ((looks_findIn T.K bmD_ga.find).at ?_))))))
  dsimp only
  rw [if_neg (by decide)]
  unfold getAttrByItsOwn
  refine wpAny_bind (m := hookBefore (.ref 264)) ((looks_findIn T.K gh_dom).at ?_)
  refine wpAny_bind (wpAny_attempt (wpAny_holding ?_))
  unfold callGetattribute
  rw [if_neg (by simp [onTheHeap])]
  refine wpAny_mono (Q := fun v s' => WA w A (handedOut v) Q s') (E := fun _ _ => False) ?_ (fun _ _ z => z) fun _ _ z => z.elim
  unfold boundAndCalled
  refine wpAny_bind (bm_bind bmD_ga T' ?_)
  dsimp only [List.cons_append, List.nil_append]
  refine bm_call (s := { s with toks := s.toks + 1 }) bmD_ga T' hx hc (by unfold argsOk; kernel_rfl) ?_
  show wpAny _ _ (do
    let tp ← typeOf (.ref x)
    match ← find (.ref x) tp name with
    | .value v => ret v
    | .bind g a => bindTo g a (.ref x) tp
    | .missing => _) _ _ _
  refine wpAny_bind (hT.at (wpAny_bind ((looks_find T.K I hf).at ?_)))
  refine wpAny_pure ?_
  show wpAny _ _ (handedOut v) _ _ _
  rw [handedOut_of hv]
  exact wpAny_pure (h _ G)

/-- an attribute of a plain object -/
theorem b_attr {x dx C : Addr} {ox od : Obj} {name : Str} {v : Value} {expr : Bool} {Q : Value → Shared → Prop} (T : Stat w s.heap) (hx : s.heap.get? x = some ox) (hc : ox.cls = .ref C) (hd : ox.dict = some dx) (hno : notCls ox = true)
    (hdx : s.heap.get? dx = some od) (hga : findIn (Kf w) (.ref C) "__getattribute__" = some (some (.builtin "object.__getattribute__"))) (hf : findObj (Kf w) C (some od) name = some (.value v)) (hv : handedIn v = true) (h : ∀ s', Grow s s' → Q v s') : WA w A (getAttr (.ref x) name expr) Q s :=
  get_value T.K ⟨hx, hc, hno, by rw [hd]; exact hdx⟩ hga hf hv (h _ (Grow.tok s _))

theorem r_attr {value : Expr} {attr : Str} {pos : Pos} {Q : Value → Shared → Prop}
    (h : WA w A (eval value env) (fun o s₁ => WA w A (getAttr o attr true) Q s₁) s)
    (he : eval (.Attribute value attr pos) env = (do
      let o ← eval value env
      standAt pos.atName
      let r ← holding [o] (getAttr o attr true)
      letTemporaryGo value o r
      pure r) := by with_unfolding_all rfl) : WA w A (eval (.Attribute value attr pos) env) Q s := Attribute_any_ h he

abbrev domD (w : World) (q : Nat × Nat × Nat) (hi si : Addr) : Obj := dictOf [attrE w "_hidden" q.1 (.ref hi), attrE w "_states" q.2.1 (.ref si)] q.2.2
theorem fo_hidden (q : Nat × Nat × Nat) (hi si : Addr) : findObj (Kf w) 264 (some (domD w q hi si)) "_hidden" = some (.value (.ref hi)) := by kernel_rfl
theorem fo_states (q : Nat × Nat × Nat) (hi si : Addr) : findObj (Kf w) 264 (some (domD w q hi si)) "_states" = some (.value (.ref si)) := by kernel_rfl
/-- the dict of a domain: its two lists -/
def DomDI (w : World) (hi si : Addr) (o : Obj) : Prop := ∃ q, o = domD w q hi si
theorem d_hidden {x dx hi si : Addr} {xs : List Value} {expr : Bool} {Q : Value → Shared → Prop} (T : Stat w s.heap) (hx : Has s.heap x (DomI dx xs)) (hdx : Has s.heap dx (DomDI w hi si))
    (h : ∀ s', Grow s s' → Q (.ref hi) s') : WA w A (getAttr (.ref x) "_hidden" expr) Q s := by
  obtain ⟨n, hx⟩ := hx.out
  obtain ⟨_, hdx, q, rfl⟩ := hdx
  exact b_domAttr T hx rfl rfl rfl hdx (fo_hidden q hi si) rfl h
theorem d_states {x dx hi si : Addr} {xs : List Value} {expr : Bool} {Q : Value → Shared → Prop} (T : Stat w s.heap) (hx : Has s.heap x (DomI dx xs)) (hdx : Has s.heap dx (DomDI w hi si))
    (h : ∀ s', Grow s s' → Q (.ref si) s') : WA w A (getAttr (.ref x) "_states" expr) Q s := by
  obtain ⟨n, hx⟩ := hx.out
  obtain ⟨_, hdx, q, rfl⟩ := hdx
  exact b_domAttr T hx rfl rfl rfl hdx (fo_states q hi si) rfl h
/-- a list's, a domain's method -/
theorem m_list {x : Addr} {xs : List Value} {name : Str} {id : String} {b : Builtin} {pl : Sem Bool} {Q : Value × List Value → Shared → Prop} (M : BM w (.type "list") name id b) (T : Stat w s.heap) (hx : Has s.heap x (LstI xs))
    (h : Q (.builtin id, [.ref x]) s) : WA w A (getMethod (.ref x) name pl) Q s := by
  obtain ⟨n, hx⟩ := hx.out
  exact bm_method M T hx rfl ga_list can_list gh_list (.inl rfl) h
theorem m_dom {x dx hi si : Addr} {xs : List Value} {name : Str} {id : String} {b : Builtin} {pl : Sem Bool} {Q : Value × List Value → Shared → Prop} (M : BM w (.ref 264) name id b) (T : Stat w s.heap) (hx : Has s.heap x (DomI dx xs)) (hdx : Has s.heap dx (DomDI w hi si))
    (hn : ∀ q, lookIn name (domD w q hi si) = some none) (h : Q (.builtin id, [.ref x]) s) : WA w A (getMethod (.ref x) name pl) Q s := by
  obtain ⟨n, hx⟩ := hx.out
  obtain ⟨_, hdx, q, rfl⟩ := hdx
  exact bm_method M T hx rfl ga_dom can_list gh_dom (.inr ⟨dx, _, rfl, hdx, hn q⟩) h
end
end Mine
end

section
open PySem PySem.W PySem.Calls PyProof.Rows
namespace Mine

structure Led {ι : Type} (g h : Heap) (S : Sto ι) : Prop where
  has : ∀ l a φ, S l = some (a, φ) → Has h a φ ∧ g.get? a = none
  inj : ∀ l l' a o o', S l = some (a, o) → S l' = some (a, o') → l = l'
abbrev noS : Sto Nat := fun _ => none
theorem Led.nil (g h : Heap) {ι : Type} : Led g h (fun (_ : ι) => none) := ⟨fun _ _ _ e => (nomatch e), fun _ _ _ _ _ e => (nomatch e)⟩
/-- a ledger of labels 0, 1, .. -/
def listS (l : List (Addr × (Obj → Prop))) : Sto Nat := fun i => l[i]?
theorem Led.list {g h : Heap} {l : List (Addr × (Obj → Prop))} (h1 : ∀ p ∈ l, Has h p.1 p.2 ∧ g.get? p.1 = none) (h2 : (l.map (·.1)).Nodup) : Led g h (listS l) := by
  constructor
  · intro i a o e
    exact h1 (a, o) (List.mem_of_getElem? e)
  · intro i j a o o' e e'
    have a1 : (l.map (·.1))[i]? = some a := by rw [List.getElem?_map, show l[i]? = some (a, o) from e]; rfl
    have a2 : (l.map (·.1))[j]? = some a := by rw [List.getElem?_map, show l[j]? = some (a, o') from e']; rfl
    have hi := (List.getElem?_eq_some_iff.mp a1).1
    exact (List.getElem?_inj hi h2).mp (a1.trans a2.symm)

section
variable {w : World} {A : Around} {s : Shared} {ι : Type}

def retOf (fl : Flow) : Value := match fl with | .ret v => v | _ => .none

theorem r_enterC {f : Addr} {g : Heap} {oc : Value} {od an : Option Addr} {osl : Array (Option Value)} {name qual : Str} {params : Arguments} {body : List Stmt} {scope : Scope} {dV kV doc pm cdv ct : Value} {args : List Value} {binds : List (Str × Value)} {S : Sto ι}
    {Q : Value → Shared → Prop} (ho : (Kf w).lookup f = some ⟨oc, od, .func (fnOf name qual params body scope dV kV doc pm an cdv ct), osl⟩)
    (hA : A.depth < recursionLimit) (hg : Sub g s.heap) (T : Stat w g) (hcd : codeIn (Kf w) cdv qual = true)
    (hbind : BindsTo s (fnOf name qual params body scope dV kV doc pm an cdv ct) ⟨args, []⟩ binds) (hloc : (binds.all fun x => decide (scope.names.lookup x.1 = some .local)) = true) (hS : Led g s.heap S)
    (h : ∀ L s₁, St ⟨g, L, [], s⟩ [] binds.reverse [] S s₁ →
      WA w (A.deeper (envX qual scope L f cdv [])) (execs body (envX qual scope L f cdv [])) (fun fl s' => Q (retOf fl) s') s₁)
    (hcell : ∀ x ∈ scope.names, x.2 ≠ .cell := by decide) (hco : scope.isCoroutine = false := by rfl) (hgen : scope.isGenerator = false := by rfl) (hk : scope.kind = .function := by rfl) :
    codeAny (model Pr w) A (.call (.ref f) ⟨args, []⟩) (Rv Q) s := by
  have X := T.mono hg.get
  refine (codeAny_call_def (fd := fnOf name qual params body scope dV kV doc pm an cdv ct) (body := body) (binds := binds) hA (X.K _ _ ho) rfl X.nolimit (codeRec_of X.K hcd) rfl hbind hcell (locs hloc) (fun h₁ hns hk₁ => ?_) hco hgen hk)
  have S1 : St ⟨g, s.heap.objs.size, [], s⟩ [] binds.reverse [] S { s with heap := h₁, toks := s.toks + binds.length } := by
    obtain ⟨oL, es, ep, hL, hd, hkk, hf⟩ := hns
    have gL : g.get? s.heap.objs.size = none := by
      cases q : g.get? s.heap.objs.size with
      | none => rfl
      | some o => exact absurd (Heap.lt_size (hg.get _ _ q)) (Nat.lt_irrefl _)
    refine ⟨⟨⟨fun a o e => hk₁ a o (hg.get a o e)⟩, .refl _, rfl, rfl⟩, ⟨?_, ?_⟩⟩
    · intro t a φ e
      cases t with
      | loc => cases e; exact ⟨gL, oL, hL, es, ep, hd, hkk, fun x v q => by rw [hf x]; exact q⟩
      | cel x => cases e
      | pin k => cases e
      | lab l =>
        obtain ⟨⟨o, ho, hφ⟩, hn⟩ := hS.has l a φ e
        exact ⟨hn, o, hk₁ _ _ ho, hφ⟩
    · intro t t' a φ φ' e e'
      cases t with
      | cel x => cases e
      | pin k => cases e
      | loc =>
        cases e
        cases t' with
        | loc => rfl
        | cel x => cases e'
        | pin k => cases e'
        | lab l =>
          obtain ⟨⟨o, ho, hφ⟩, hn⟩ := hS.has l _ φ' e'
          exact absurd (Heap.lt_size ho) (Nat.lt_irrefl _)
      | lab l =>
        cases t' with
        | loc =>
          cases e'
          obtain ⟨⟨o, ho, hφ⟩, hn⟩ := hS.has l _ φ e
          exact absurd (Heap.lt_size ho) (Nat.lt_irrefl _)
        | cel x => cases e'
        | pin k => cases e'
        | lab l' =>
          rw [hS.inj l l' _ _ _ e e']
  exact wpAny_mono (h _ _ S1) (fun fl s' z => by cases fl <;> exact z) fun _ _ z => z.elim

theorem r_enter {f : Addr} {g : Heap} {oc : Value} {od an : Option Addr} {osl : Array (Option Value)} {name qual : Str} {params : Arguments} {body : List Stmt} {scope : Scope} {dV kV doc pm cdv ct : Value} {args : List Value} {binds : List (Str × Value)} {S : Sto ι}
    {Q : Value → Shared → Prop} (ho : (Kf w).lookup f = some ⟨oc, od, .func (fnOf name qual params body scope dV kV doc pm an cdv ct), osl⟩)
    (hA : A.depth < recursionLimit) (hg : Sub g s.heap) (T : Stat w g) (hcd : codeIn (Kf w) cdv qual = true)
    (hbind : BindsTo s (fnOf name qual params body scope dV kV doc pm an cdv ct) ⟨args, []⟩ binds) (hloc : (binds.all fun x => decide (scope.names.lookup x.1 = some .local)) = true) (hS : Led g s.heap S)
    (h : ∀ L s₁, St ⟨g, L, [], s⟩ [] binds.reverse [] S s₁ →
      WA w (A.deeper (envX qual scope L f cdv [])) (execs body (envX qual scope L f cdv [])) (fun fl s' => Q (retOf fl) s') s₁)
    (hcell : ∀ x ∈ scope.names, x.2 ≠ .cell := by decide) (hco : scope.isCoroutine = false := by rfl) (hgen : scope.isGenerator = false := by rfl) (hk : scope.kind = .function := by rfl) :
    WA w A (call (.ref f) args) Q s :=
  wpAny_call (codeAny_mono (r_enterC ho hA hg T hcd hbind hloc hS h hcell hco hgen hk) fun r s' z => by rcases r with e | (_ | _ | _ | _) <;> exact z)
end
end Mine
end

section
open PySem PySem.W PySem.Calls PyProof.Rows
namespace Mine
section
variable {w : World} {A : Around} {s : Shared} {env : Env} {a b : Int} {t u : Tok}
theorem i_add {Q : Value → Shared → Prop} (h : ∀ t s', Grow s s' → Q (.int (a + b) t) s') : WA w A (binaryOp .Add (.int a t) (.int b u)) Q s := P.add_int (h _ _ (Grow.tok s _))
theorem i_iadd {Q : Value → Shared → Prop} (h : ∀ t s', Grow s s' → Q (.int (a + b) t) s') : WA w A (inplaceOp .Add (.int a t) (.int b u)) Q s := P.iadd_int (h _ _ (Grow.tok s _))
theorem i_sub {Q : Value → Shared → Prop} (h : ∀ t s', Grow s s' → Q (.int (a - b) t) s') : WA w A (binaryOp .Sub (.int a t) (.int b u)) Q s := P.sub_int (h _ _ (Grow.tok s _))
theorem i_neg {Q : Value → Shared → Prop} (h : ∀ t s', Grow s s' → Q (.int (-a) t) s') : WA w A (unaryOp .USub (.int a t)) Q s := P.neg_int (h _ _ (Grow.tok s _))

theorem r_delSlice {o : Expr} {lower : Option Expr} {p pos p2 : Pos} {rest : List Stmt} {Q : Flow → Shared → Prop}
    (h : WA w A (eval o env) (fun ov s₁ => WA w A (evalPart lower env) (fun vl s₂ =>
      ∃ a xs lo i, ov = .ref a ∧ Stat w s₂.heap ∧ Has s₂.heap a (LstI xs) ∧ IsPart vl lo ∧ xs.length ≤ 900 ∧ i ≤ xs.length ∧ sliceBounds lo none none xs.length = ((i : Int), (xs.length : Int), 1) ∧
        ∀ s₃ h', Grow s₂ s₃ → Has h' a (LstI (xs.take i)) → Heap.SameBut a s₃.heap h' → WA w A (execs rest env) Q { s₃ with heap := h' }) s₁) s) :
    WA w A (execs (.Delete [.Subscript o (.Slice lower none none p) pos] p2 :: rest) env) Q s := by
  refine r_seq (wpAny_Delete (wpAny_deleteEach_cons ?_))
  show WA w A (do
    let ov ← eval o env
    let iv ← holding [ov] (eval (.Slice lower none none p) env)
    standAt pos
    holding [ov, iv] (delItem ov iv)
    release [ov, iv] []) _ s
  refine wpAny_bind (WA.mono h fun ov s₁ h₁ => wpAny_bind (wpAny_holding (wpAny_Slice (WA.mono h₁ fun vl s₂ h₂ => ?_))))
  obtain ⟨a, xs, lo, i, rfl, T, ho, pl, hz, hi, hb, hQ⟩ := h₂
  refine wpAny_pure (wpAny_pure (wpAny_bind (wpAny_standAt (wpAny_bind (wpAny_holding ?_)))))
  have k : ∀ b o, s₂.heap.get? b = some o → (s₂.heap.push (sliceO vl .none .none)).get? b = some o := fun _ _ e => Heap.get?_push_of_some _ e
  refine b_delSlice (s := { s₂ with heap := s₂.heap.push (sliceO vl .none .none) }) (T.mono k) (ho.mono ⟨k⟩) (Heap.get?_push_size _ rfl) pl hz hi hb fun h' h1 h2 => ?_
  refine fun Γ p hΓ => ?_
  rw [Sem.wp_release]
  exact wpAny_deleteEach_nil (Q := fun _ s₁ => Kont w A env rest Q .next s₁) (hQ { s₂ with heap := s₂.heap.push (sliceO vl .none .none) } h' (Grow.alloc _ _) h1 h2)
end
end Mine
end

section
open PySem PySem.W PySem.Calls PyProof.Rows
namespace Mine
section
variable {w : World} {A : Around} {s : Shared} {g : Heap}
theorem nb_len : nsIn (Kf w) mainGlobals "len" = some none := by kernel_rfl
theorem bt_len : bootBuiltins "len" = some (.builtin "len") := by kernel_rfl
theorem St.stat {ι : Type} {c : Cx} {P : List (Addr × (Obj → Prop))} {m cm : Loc} {S : Sto ι} {s : Shared} (X : St c P m cm S s) (T : Stat w c.g) : Stat w s.heap := T.mono X.chg.sub.get
theorem Led.one {g h : Heap} {a : Addr} {φ : Obj → Prop} (h1 : Has h a φ) (n1 : g.get? a = none) : Led g h (listS [(a, φ)]) := Led.list (by simpa using ⟨h1, n1⟩) (by simp)
theorem Led.two {g h : Heap} {a b : Addr} {φ ψ : Obj → Prop} (h1 : Has h a φ) (n1 : g.get? a = none) (h2 : Has h b ψ) (n2 : g.get? b = none) (e : a ≠ b) : Led g h (listS [(a, φ), (b, ψ)]) :=
  Led.list (by simp only [List.mem_cons, List.not_mem_nil, or_false]; rintro p (rfl | rfl) <;> exact ⟨by assumption, by assumption⟩) (by simp [e])
theorem Led.three {g h : Heap} {a b c : Addr} {φ ψ χ : Obj → Prop} (h1 : Has h a φ) (n1 : g.get? a = none) (h2 : Has h b ψ) (n2 : g.get? b = none) (h3 : Has h c χ) (n3 : g.get? c = none) (e1 : a ≠ b) (e2 : a ≠ c) (e3 : b ≠ c) : Led g h (listS [(a, φ), (b, ψ), (c, χ)]) :=
  Led.list (by simp only [List.mem_cons, List.not_mem_nil, or_false]; rintro p (rfl | rfl | rfl) <;> exact ⟨by assumption, by assumption⟩) (by simp [e1, e2, e3])

theorem pushState_spec {d dd hi si : Addr} {xs sts : List Value} {Q : Value → Shared → Prop} (hA : Ok A 3) (hg : Sub g s.heap) (T : Stat w g)
    (gd : Has g d (DomI dd xs)) (gdd : Has g dd (DomDI w hi si)) (hsi : Has s.heap si (LstI sts)) (nsi : g.get? si = none) (z1 : xs.length ≤ 100) (z2 : sts.length ≤ 100)
    (h : ∀ s' t, Chg g s s' → Has s'.heap si (LstI (sts ++ [.int xs.length t])) → Q .none s') : WA w A (call (.ref 247) [.ref d]) Q s := by
  refine r_enter (binds := [("self", .ref d)]) (by exact rfl) hA.room hg T (by kernel_rfl) (BindsTo.of_eq rfl) (by rfl) (Led.one hsi nsi) fun L s S => ?_
  refine r_expr (r_callMeth (r_attr (r_local S rfl (d_states (S.stat T) (S.baseH gd) (S.baseH gdd) fun s' g' => ?_))))
  have S := S.grow g'
  refine m_list bmL_append (S.stat T) (S.at (l := 0) rfl) ?_
  refine r_cw (args_cons (r_callName (r_built (S.stat T) nb_len bt_len (r_cw (args_cons (r_local S rfl (args_nil ⟨keeps_builtin _ _, b_len (S.stat T) bmD__len__ (S.baseH gd) (by omega) fun t s' g' => ?_⟩)))))))
  have S := S.grow g'
  refine args_nil ⟨keeps_builtin _ _, b_append (S.stat T) (S.at (l := 0) rfl) (by omega) fun h' h1 h2 => ?_⟩
  have S := S.set (l := 0) (t := s'.toks) rfl h1 h2
  exact r_nil (h _ t S.chg (S.at (l := 0) rfl))

/-- popState: the last `diff` hidden values come back -/
theorem popState_spec {d dd hi si : Addr} {xs hs back sts : List Value} {m : Nat} {t : Tok} {Q : Value → Shared → Prop} (hA : Ok A 3) (hg : Sub g s.heap) (T : Stat w g)
    (hd : Has s.heap d (DomI dd xs)) (nd : g.get? d = none) (gdd : Has g dd (DomDI w hi si)) (hhi : Has s.heap hi (LstI (hs ++ back))) (nhi : g.get? hi = none)
    (hsi : Has s.heap si (LstI (sts ++ [.int m t]))) (nsi : g.get? si = none) (hm : m = xs.length + back.length) (e1 : d ≠ hi) (e2 : d ≠ si) (e3 : hi ≠ si)
    (z1 : xs.length ≤ 100) (z2 : sts.length ≤ 100) (z3 : (hs ++ back).length ≤ 100)
    (h : ∀ s', Chg g s s' → Has s'.heap d (DomI dd (xs ++ back)) → Has s'.heap hi (LstI hs) → Has s'.heap si (LstI sts) → Q .none s') :
    WA w A (call (.ref 254) [.ref d]) Q s := by
  refine r_enter (binds := [("self", .ref d)]) (by exact rfl) hA.room hg T (by kernel_rfl) (BindsTo.of_eq rfl) (by rfl) (Led.three hd nd hhi nhi hsi nsi e1 e2 e3) fun L s S => ?_
  refine r_assign (r_bin (r_callMeth (r_attr (r_local S rfl (d_states (S.stat T) (S.at (l := 0) rfl) (S.baseH gdd) fun s' g' => ?_)))))
  have S := S.grow g'
  refine m_list bmL_pop (S.stat T) (S.at (l := 2) rfl) ?_
  refine r_cw0 (keeps_builtin _ _) (b_pop (S.stat T) (S.at (l := 2) rfl) (by omega) fun h' h1 h2 => ?_)
  have S := S.set (l := 2) (t := s'.toks) rfl h1 h2
  refine r_callName (r_built (S.stat T) nb_len bt_len (r_cw (args_cons (r_local S rfl (args_nil ⟨keeps_builtin _ _, b_len (S.stat T) bmD__len__ (S.at (l := 0) rfl) (by omega) fun t s' g' => ?_⟩)))))
  have S := S.grow g'
  refine i_sub fun t s' g' => ?_
  have S := S.grow g'
  refine r_store S fun s' S => ?_
  have hd : ((m : Int) - xs.length) = back.length := by omega
  rw [hd] at S
  refine r_if (t_name (r_local S rfl (P.truthy_int ?_)))
  by_cases hb : back = []
  · subst hb
    rw [if_neg (by simp)]
    simp only [List.append_nil] at *
    exact r_nil (k_next (r_nil (h _ S.chg (S.at (l := 0) rfl) (S.at (l := 1) rfl) (S.at (l := 2) rfl))))
  · have hl : 0 < back.length := List.length_pos_iff.mpr hb
    rw [if_pos (by simp; exact hb)]
    refine r_expr (r_callMeth (r_local S rfl (m_dom bmD_extend (S.stat T) (S.at (l := 0) rfl) (S.baseH gdd) (fun q => by kernel_rfl) ?_)))
    refine r_cw (args_cons (r_slice (r_attr (r_local S rfl (d_hidden (S.stat T) (S.at (l := 0) rfl) (S.baseH gdd) fun s' g' => ?_)))))
    have S := S.grow g'
    refine r_un (r_local S rfl (i_neg fun t s' g' => ?_))
    have S := S.grow g'
    refine wpAny_pure ⟨hi, _, _, hs ++ back, some _, none, rfl, S.stat T, S.at (l := 1) rfl, sk_type (by decide), bmL__getitem__, .int _ _, .none, by omega, fun l s' g' hl1 hl2 => ?_⟩
    rw [pick_last _ _ hl (by simp)] at hl1
    rw [show (hs ++ back).drop ((hs ++ back).length - back.length) = back from by simp] at hl1
    have S := S.new g' (l := 3) hl1 hl2
    refine args_nil ⟨keeps_builtin _ _, b_extend (S.stat T) (S.at (l := 0) rfl) (S.at (l := 3) rfl) (fun e => by have := S.inj (l := 0) (l' := 3) rfl (by rw [e]; rfl); cases this) (by rw [List.length_append] at z3; omega) fun h' h1 h2 => ?_⟩
    have S := S.set (l := 0) (t := s'.toks) rfl h1 h2
    refine r_delSlice (r_attr (r_local S rfl (d_hidden (S.stat T) (S.at (l := 0) rfl) (S.baseH gdd) fun s' g' => ?_)))
    have S := S.grow g'
    refine r_un (r_local S rfl (i_neg fun t s' g' => ?_))
    have S := S.grow g'
    refine ⟨hi, hs ++ back, some _, hs.length, rfl, S.stat T, S.at (l := 1) rfl, .int _ _, by omega, by simp, ?_, fun s₃ h' g3 h1 h2 => ?_⟩
    · simp only [sliceBounds, Option.getD_none]
      simp
      omega
    rw [List.take_left' rfl] at h1
    have S := (S.grow g3).set (l := 1) (t := s₃.toks) rfl h1 h2
    exact r_nil (k_next (r_nil (h _ S.chg (S.at (l := 0) rfl) (S.at (l := 1) rfl) (S.at (l := 2) rfl))))

/-- hideValue: a value goes over to the hidden ones -/
theorem hideValue_spec {d dd hi si : Addr} {pre post hs : List Value} {i : Int} {t u : Tok} {Q : Value → Shared → Prop} (hA : Ok A 3) (hg : Sub g s.heap) (T : Stat w g)
    (hd : Has s.heap d (DomI dd (pre ++ .int i t :: post))) (nd : g.get? d = none) (gdd : Has g dd (DomDI w hi si)) (hhi : Has s.heap hi (LstI hs)) (nhi : g.get? hi = none)
    (hpre : ∀ v ∈ pre, ∃ i' t', v = .int i' t' ∧ i' ≠ i) (e1 : d ≠ hi) (z1 : (pre ++ .int i t :: post).length ≤ 100) (z3 : hs.length ≤ 100)
    (h : ∀ s', Chg g s s' → Has s'.heap d (DomI dd (pre ++ post)) → Has s'.heap hi (LstI (hs ++ [.int i u])) → Q .none s') :
    WA w A (call (.ref 261) [.ref d, .int i u]) Q s := by
  refine r_enter (binds := [("self", .ref d), ("value", .int i u)]) (by exact rfl) hA.room hg T (by kernel_rfl) (BindsTo.of_eq rfl) (by rfl) (Led.two hd nd hhi nhi e1) fun L s S => ?_
  refine r_expr (r_callMeth (r_local S rfl (m_dom bmD_remove (S.stat T) (S.at (l := 0) rfl) (S.baseH gdd) (fun q => by kernel_rfl) ?_)))
  refine r_cw (args_cons (r_local S rfl (args_nil ⟨keeps_builtin _ _, b_removeD (b := "") (S.stat T) bmD_remove (S.at (l := 0) rfl) hpre (by omega) fun h' tk h1 h2 => ?_⟩)))
  have S := S.set (l := 0) (t := tk) rfl h1 h2
  refine r_expr (r_callMeth (r_attr (r_local S rfl (d_hidden (S.stat T) (S.at (l := 0) rfl) (S.baseH gdd) fun s' g' => ?_))))
  have S := S.grow g'
  refine m_list bmL_append (S.stat T) (S.at (l := 1) rfl) ?_
  refine r_cw (args_cons (r_local S rfl (args_nil ⟨keeps_builtin _ _, b_append (S.stat T) (S.at (l := 1) rfl) (by omega) fun h' h1 h2 => ?_⟩)))
  have S := S.set (l := 1) (t := s'.toks) rfl h1 h2
  exact r_nil (h _ S.chg (S.at (l := 0) rfl) (S.at (l := 1) rfl))

/-- resetState, where nothing is hidden -/
theorem resetState_spec {d dd hi si : Addr} {xs sts : List Value} {Q : Value → Shared → Prop} (hA : Ok A 3) (hg : Sub g s.heap) (T : Stat w g)
    (hd : Has s.heap d (DomI dd xs)) (nd : g.get? d = none) (gdd : Has g dd (DomDI w hi si)) (hhi : Has s.heap hi (LstI [])) (nhi : g.get? hi = none)
    (hsi : Has s.heap si (LstI sts)) (nsi : g.get? si = none) (e1 : d ≠ hi) (e2 : d ≠ si) (e3 : hi ≠ si) (z1 : xs.length ≤ 100) (z2 : sts.length ≤ 100)
    (h : ∀ s', Chg g s s' → Has s'.heap d (DomI dd xs) → Has s'.heap hi (LstI []) → Has s'.heap si (LstI []) → Q .none s') :
    WA w A (call (.ref 240) [.ref d]) Q s := by
  refine r_enter (binds := [("self", .ref d)]) (by exact rfl) hA.room hg T (by kernel_rfl) (BindsTo.of_eq rfl) (by rfl) (Led.three hd nd hhi nhi hsi nsi e1 e2 e3) fun L s S => ?_
  refine r_expr (r_callMeth (r_local S rfl (m_dom bmD_extend (S.stat T) (S.at (l := 0) rfl) (S.baseH gdd) (fun q => by kernel_rfl) ?_)))
  refine r_cw (args_cons (r_attr (r_local S rfl (d_hidden (S.stat T) (S.at (l := 0) rfl) (S.baseH gdd) fun s' g' => ?_))))
  have S := S.grow g'
  refine args_nil ⟨keeps_builtin _ _, b_extend (S.stat T) (S.at (l := 0) rfl) (S.at (l := 1) rfl) (fun e => e1 e) (by simp; omega) fun h' h1 h2 => ?_⟩
  rw [List.append_nil] at h1
  have S := S.set (l := 0) (t := s'.toks) rfl h1 h2
  refine r_delSlice (r_attr (r_local S rfl (d_hidden (S.stat T) (S.at (l := 0) rfl) (S.baseH gdd) fun s' g' => ?_)))
  have S := S.grow g'
  refine wpAny_pure ⟨hi, [], none, 0, rfl, S.stat T, S.at (l := 1) rfl, .none, by simp, by simp, by simp [sliceBounds], fun s₃ h' g3 h1 h2 => ?_⟩
  have S := (S.grow g3).set (l := 1) (t := s₃.toks) rfl h1 h2
  refine r_delSlice (r_attr (r_local S rfl (d_states (S.stat T) (S.at (l := 0) rfl) (S.baseH gdd) fun s' g' => ?_)))
  have S := S.grow g'
  refine wpAny_pure ⟨si, sts, none, 0, rfl, S.stat T, S.at (l := 2) rfl, .none, by omega, by simp, by simp [sliceBounds], fun s₃ h' g3 h1 h2 => ?_⟩
  have S := (S.grow g3).set (l := 2) (t := s₃.toks) rfl h1 h2
  exact r_nil (h _ S.chg (S.at (l := 0) rfl) (S.at (l := 1) rfl) (S.at (l := 2) rfl))
end
end Mine
end

section
open PySem PySem.W PySem.Calls PyProof.Rows
namespace Mine

def ownIts : List String := ["enumerate", "zip", "dict_itemiterator", "dict_reverseitemiterator", "odict_iterator", "itertools.zip_longest", "itertools.pairwise"]

/-- an iterator over n items -/
structure It (w : World) (A : Around) (I : Addr) (n : Nat) (val : Nat → Value → Prop) (φ : Nat → Obj → Prop) (src : Heap → Prop) : Prop where
  cls : ∀ i o, φ i o → ∃ c, o.cls = .type c ∧ ownIts.contains c = false
  item : ∀ i (s : Shared) (Q : Option Value → Shared → Prop), i < n → Has s.heap I (φ i) → src s.heap →
    (∀ v h' tk, val i v → Has h' I (φ (i + 1)) → Ext I s.heap h' → Q (some v) { s with heap := h', toks := tk }) → WA w A (pyNext (.ref I)) Q s
  done : ∀ (s : Shared) (Q : Option Value → Shared → Prop), Has s.heap I (φ n) → src s.heap →
    (∀ h' tk, Ext I s.heap h' → Q none { s with heap := h', toks := tk }) → WA w A (pyNext (.ref I)) Q s
  self : ∀ i (s : Shared) (Q : Value → Shared → Prop), Has s.heap I (φ i) → Q (.ref I) s → WA w A (pyIter (.ref I)) Q s

/-- what can be walked -/
def Itb (w : World) (A : Around) (xv : Value) (s₁ : Shared) (n : Nat) (val : Nat → Value → Prop) (src : Heap → Prop) : Prop :=
  ∀ (Q : Value → Shared → Prop), (∀ I φ s₂, Grow s₁ s₂ → Has s₂.heap I (φ 0) → s₁.heap.get? I = none → It w A I n val φ src → Q (.ref I) s₂) → WA w A (pyIter xv) Q s₁

section
variable {w : World} {A : Around} {s : Shared} {env : Env}

theorem it_go {I : Addr} {n : Nat} {val : Nat → Value → Prop} {φ : Nat → Obj → Prop} {src : Heap → Prop} (X : It w A I n val φ src) {i : Nat} (hI : Has s.heap I (φ i)) {target : Expr} {v : Value} {Q : Unit → Shared → Prop} (h : Q () s) :
    WA w A (letOwnedTupleGo target (.ref I) v) Q s := by
  obtain ⟨o, ho, hφ⟩ := hI
  obtain ⟨c, hc, hn⟩ := X.cls i o hφ
  have key : ∀ a : Addr, WA w A (do
      let o ← load I
      match o.cls, o.data with
      | .type n, .fields vs =>
        if ["enumerate", "zip", "dict_itemiterator", "dict_reverseitemiterator", "odict_iterator", "itertools.zip_longest", "itertools.pairwise"].contains n && vs[0]? == some (rawInt a) then
          rule "for.unpacks-the-owned-tuple"
          updateField I 0 .none
      | _, _ => pure ()) Q s := by
    intro a
    refine wpAny_bind (wpAny_load ho ?_)
    rw [hc]
    cases o.data <;> first | exact wpAny_pure h | skip
    dsimp only
    rw [if_neg (by
      intro q
      rw [Bool.and_eq_true] at q
      have : ownIts.contains c = true := q.1
      rw [hn] at this; cases this)]
    exact wpAny_pure h
  unfold letOwnedTupleGo
  cases target <;> first | exact wpAny_pure h | skip
  all_goals (cases v <;> first | exact wpAny_pure h | exact key _)

def ItO (c : String) (vs : Nat → Array Value) (i : Nat) (o : Obj) : Prop := o.cls = .type c ∧ o.data = .fields (vs i)

theorem itb_list {l : Addr} {xs : List Value} (hh : A.handled = none) (hl : Has s.heap l (LstI xs)) :
    Itb w A (.ref l) s xs.length (fun i v => xs[i]? = some v) (fun h => Has h l (LstI xs)) := by
  intro Q h
  have toL : ∀ {h : Heap}, Has h l (LstI xs) → h.IsList l xs.toArray := fun x => by obtain ⟨n, e⟩ := x.out; exact ⟨_, e, rfl, n, rfl⟩
  have toI : ∀ {h : Heap} {I : Addr} {i : Nat}, Has h I (ItO "list_iterator" (fun i => #[.ref l, .int i 0]) i) → h.IsListIter I l i := fun ⟨o, e, a, b⟩ => ⟨o, e, a, b⟩
  refine wpAny_pyIter_list (toL hl) ?_
  refine h _ (ItO "list_iterator" (fun i => #[.ref l, .int i 0])) _ (Grow.alloc _ _) ⟨_, Heap.get?_push_size _ rfl, rfl, rfl⟩ (Heap.get?_none_of_le (Nat.le_refl _)) ?_
  refine ⟨fun i o q => ⟨_, q.1, by decide⟩, fun i s Q hi hI hs h => ?_, fun s Q hI hs h => ?_, fun i s Q hI h => ?_⟩
  · exact wpAny_pyNext_list_item (toI hI) (toL hs) (x := xs[i]) (by simp [hi]) fun h' ⟨o, e, a, b⟩ k => h _ h' s.toks (by simp [hi]) ⟨o, e, a, b⟩ k.extBut
  · exact wpAny_pyNext_list_end hh (toI hI) (toL hs) (by simp) fun h' k => h h' s.toks k
  · exact wpAny_pyIter_listiter (toI hI) h

theorem itb_tuple {l : Addr} {xs : List Value} (hh : A.handled = none) (hl : Has s.heap l (TupI xs)) :
    Itb w A (.ref l) s xs.length (fun i v => xs[i]? = some v) (fun h => Has h l (TupI xs)) := by
  intro Q h
  have toL : ∀ {h : Heap}, Has h l (TupI xs) → h.IsTuple l xs.toArray := fun x => by obtain ⟨n, e⟩ := x.out; exact ⟨_, e, rfl, n, rfl⟩
  have toI : ∀ {h : Heap} {I : Addr} {i : Nat}, Has h I (ItO "tuple_iterator" (fun i => #[.ref l, .int i 0]) i) → h.IsTupleIter I l i := fun ⟨o, e, a, b⟩ => ⟨o, e, a, b⟩
  refine wpAny_pyIter_tuple (toL hl) ?_
  refine h _ (ItO "tuple_iterator" (fun i => #[.ref l, .int i 0])) _ (Grow.alloc _ _) ⟨_, Heap.get?_push_size _ rfl, rfl, rfl⟩ (Heap.get?_none_of_le (Nat.le_refl _)) ?_
  refine ⟨fun i o q => ⟨_, q.1, by decide⟩, fun i s Q hi hI hs h => ?_, fun s Q hI hs h => ?_, fun i s Q hI h => ?_⟩
  · exact wpAny_pyNext_tuple_item (toI hI) (toL hs) (x := xs[i]) (by simp [hi]) fun h' ⟨o, e, a, b⟩ k => h _ h' s.toks (by simp [hi]) ⟨o, e, a, b⟩ k.extBut
  · exact wpAny_pyNext_tuple_end hh (toI hI) (toL hs) (by simp) fun h' k => h h' s.toks k
  · exact wpAny_pyIter_tupleiter (toI hI) h

def RngI (n : Nat) (o : Obj) : Prop := ∃ t u v, o = { cls := .type "range", dict := none, data := .fields #[.int 0 t, .int n u, .int 1 v], slots := #[] }
theorem rng_size (n : Nat) : Builtin.Range.rangeSize 0 (n : Int) 1 = n := by
  unfold Builtin.Range.rangeSize
  simp
  intro e; simp [e]
theorem itb_range {r : Addr} {n : Nat} (hn : n ≤ 1000000) (hh : A.handled = none) (hr : Has s.heap r (RngI n)) :
    Itb w A (.ref r) s n (fun i v => ∃ t, v = .int i t) (fun _ => True) := by
  intro Q h
  obtain ⟨_, hr, t, u, v, rfl⟩ := hr
  refine wpAny_pyIter_range (a := 0) (b := n) (c := 1) hr ?_ ?_
  · unfold Builtin.Range.small
    rw [rng_size]
    simp [Builtin.Range.rangeFitsLong]
    omega
  rw [rng_size]
  refine h _ (fun i o => o = { cls := .type "range_iterator", dict := none, data := .fields #[rawInt (0 + (i : Nat) * 1), rawInt ((n : Int) - (i : Nat)), rawInt 1], slots := #[] }) _ (Grow.alloc _ _) ⟨_, Heap.get?_push_size _ rfl, by simp⟩ (Heap.get?_none_of_le (Nat.le_refl _)) ?_
  have W := fun I => Walks.range (prog := Pr) (w := w) (A := A) hh I 0 1 n
  refine ⟨fun i o q => ⟨"range_iterator", by rw [q], by decide⟩, fun i s Q hi hI hs h => ?_, fun s Q hI hs h => ?_, fun i s Q hI h => ?_⟩
  · obtain ⟨_, e, rfl⟩ := hI
    refine (W _).item i s Q _ hi e fun v h' tk ⟨t, hv⟩ st k => h v h' tk ⟨t, by simpa using hv⟩ ⟨_, st, rfl⟩ fun b o hb e => k b o (by simpa using hb) e
  · obtain ⟨_, e, rfl⟩ := hI
    exact (W _).done s Q _ e fun h' tk k => h h' tk fun b o hb e => k b o (by simpa using hb) e
  · obtain ⟨_, e, rfl⟩ := hI
    exact (W _).self i s Q _ e h

-- dicts with int keys
abbrev KI (w : World) : PySem.KeyKind Pr w Int := intKind Pr w
def DicI (w : World) (kvs : List (Int × Value)) (ep : Nat) (o : Obj) : Prop := o.ExactDict ∧ ∃ es, o.data = .dict es ep ∧ PySem.KeysOf (KI w) es ∧ Pairs (KI w) es.toList kvs ∧ (kvs.map (·.1)).Nodup
theorem Has.dictAt {h : Heap} {d : Addr} {kvs : List (Int × Value)} {ep : Nat} (x : Has h d (DicI w kvs ep)) : h.DictAt (KI w) d kvs ep := let ⟨o, e, a, es, b, c, f, g⟩ := x; ⟨o, es, e, a, b, c, f, g⟩
theorem dictAtHasI {h : Heap} {d : Addr} {kvs : List (Int × Value)} {ep : Nat} (x : h.DictAt (KI w) d kvs ep) : Has h d (DicI w kvs ep) := let ⟨o, es, e, a, b, c, f, g⟩ := x; ⟨o, e, a, es, b, c, f, g⟩

theorem itb_keys {d : Addr} {kvs : List (Int × Value)} {ep : Nat} (hs : (d == sysModules) = false) (hh : A.handled = none) (hd : Has s.heap d (DicI w kvs ep)) :
    Itb w A (.ref d) s kvs.length (fun i v => ∃ k u t, kvs[i]? = some (k, u) ∧ v = .int k t) (fun h => Has h d (DicI w kvs ep)) := by
  intro Q h
  have toI : ∀ {h : Heap} {I : Addr} {i : Nat}, Has h I (ItO "dict_keyiterator" (fun i => #[.ref d, .int i 0, .int kvs.length 0, .int ep 0]) i) → h.IsKeyIter I d i kvs.length ep := fun ⟨o, e, a, b⟩ => ⟨o, e, a, b⟩
  refine wpAny_pyIter_dict hs hd.dictAt ?_
  refine h _ (ItO "dict_keyiterator" (fun i => #[.ref d, .int i 0, .int kvs.length 0, .int ep 0])) _ (Grow.alloc _ _) ⟨_, Heap.get?_push_size _ rfl, rfl, rfl⟩ (Heap.get?_none_of_le (Nat.le_refl _)) ?_
  refine ⟨fun i o q => ⟨_, q.1, by decide⟩, fun i s Q hi hI hs h => ?_, fun s Q hI hs h => ?_, fun i s Q hI h => ?_⟩
  · refine wpAny_pyNext_dict_item (toI hI) hs.dictAt (k := kvs[i].1) (v := kvs[i].2) (by simp [hi]) fun key h' hk ⟨o, e, a, b⟩ k => ?_
    obtain ⟨t, rfl⟩ := Value.isInt_shape hk
    exact h _ h' s.toks ⟨kvs[i].1, kvs[i].2, t, by simp [hi], rfl⟩ ⟨o, e, a, b⟩ k.extBut
  · exact wpAny_pyNext_dict_end hh (toI hI) hs.dictAt (by simp) fun h' k => h h' s.toks k
  · exact wpAny_pyIter_keyiter (toI hI) h

theorem itb_values {d v : Addr} {kvs : List (Int × Value)} {ep : Nat} (hh : A.handled = none) (hv : s.heap.IsValuesView v d) (hd : Has s.heap d (DicI w kvs ep)) :
    Itb w A (.ref v) s kvs.length (fun i u => ∃ k, kvs[i]? = some (k, u)) (fun h => Has h d (DicI w kvs ep)) := by
  intro Q h
  have toI : ∀ {h : Heap} {I : Addr} {i : Nat}, Has h I (ItO "dict_valueiterator" (fun i => #[.ref d, .int i 0, .int kvs.length 0, .int ep 0]) i) → h.IsValIter I d i kvs.length ep := fun ⟨o, e, a, b⟩ => ⟨o, e, a, b⟩
  refine wpAny_pyIter_values hv hd.dictAt ?_
  refine h _ (ItO "dict_valueiterator" (fun i => #[.ref d, .int i 0, .int kvs.length 0, .int ep 0])) _ (Grow.alloc _ _) ⟨_, Heap.get?_push_size _ rfl, rfl, rfl⟩ (Heap.get?_none_of_le (Nat.le_refl _)) ?_
  refine ⟨fun i o q => ⟨_, q.1, by decide⟩, fun i s Q hi hI hs h => ?_, fun s Q hI hs h => ?_, fun i s Q hI h => ?_⟩
  · refine wpAny_pyNext_values_item (toI hI) hs.dictAt (k := kvs[i].1) (v := kvs[i].2) (by simp [hi]) fun h' ⟨o, e, a, b⟩ k => ?_
    exact h _ h' s.toks ⟨kvs[i].1, by simp [hi]⟩ ⟨o, e, a, b⟩ k.extBut
  · exact wpAny_pyNext_values_end hh (toI hI) hs.dictAt (by simp) fun h' k => h h' s.toks k
  · exact wpAny_pyIter_valiter (toI hI) h

/-- for-loops -/
def TurnK (w : World) (A : Around) (env : Env) {ι : Type} (c : Cx) (P : List (Addr × (Obj → Prop))) (I : Addr) (ψ : Obj → Prop) (inv : Loc → Loc → Sto ι → Prop) (rest : List Stmt) (Q : Flow → Shared → Prop) : Flow → Shared → Prop :=
  fun f s' => match f with
  | .next | .cont => ∃ m cm S, inv m cm S ∧ St c (P ++ [(I, ψ)]) m cm S s'
  | .brk => WA w A (execs rest env) Q s'
  | .ret v => Q (.ret v) s'

/-- what a for-loop over xv wants -/
inductive ForOk (w : World) (A : Around) (env : Env) (target : Expr) (body orelse rest : List Stmt) (Q : Flow → Shared → Prop) (xv : Value) (s₁ : Shared) : Prop
  | mk {ι : Type} {c : Cx} {P : List (Addr × (Obj → Prop))} {n : Nat} {val : Nat → Value → Prop} {src : Heap → Prop} (inv : Nat → Loc → Loc → Sto ι → Prop) (B : Itb w A xv s₁ n val src)
      (start : ∃ m cm S, inv 0 m cm S ∧ St c P m cm S s₁) (hsrc : ∀ i P' m cm S s, inv i m cm S → St c P' m cm S s → src s.heap)
      (turn : ∀ i I ψ m cm S s v, i < n → inv i m cm S → val i v → St c (P ++ [(I, ψ)]) m cm S s →
        WA w A (assign target env v) (fun _ s₂ => WA w A (execs body env) (TurnK w A env c P I ψ (inv (i + 1)) rest Q) s₂) s)
      (fin : ∀ m cm S s, inv n m cm S → St c P m cm S s → WA w A (execs orelse env) (Kont w A env rest Q) s) : ForOk w A env target body orelse rest Q xv s₁

theorem r_for {target iter : Expr} {body orelse rest : List Stmt} {p : Pos} {Q : Flow → Shared → Prop}
    (h : WA w A (eval iter env) (fun xv s₁ => ForOk w A env target body orelse rest Q xv s₁) s)
    (hs : ∀ x, foldedSetIterable iter env x = pure x := by intro _; rfl) :
    WA w A (execs (.For target iter body orelse p :: rest) env) Q s := by
  refine r_seq (wpAny_For (wpAny_mono h (fun xv s₁ h₁ => ?_) fun _ _ e => e.elim) hs)
  obtain @⟨ι, c, P, n, val, src, inv, B, ⟨m, cm, S, i0, X⟩, hsrc, turn, fin⟩ := h₁
  refine B _ fun I φ s₂ g hI hfree X' => ?_
  have X₂ := X.pin g hI hfree
  have hno : ∀ {α : Type} {t : Sem α} {Q : α → Shared → Prop} {s : Shared} {E : Value → Shared → Prop}, WA w A t Q s → wpAny (model Pr w) A t Q E s := fun x => wpAny_mono x (fun _ _ q => q) fun _ _ q => q.elim
  refine codeAny_forLoop_any (fun k s => ∃ i m cm S, i + k = n ∧ inv i m cm S ∧ St c (P ++ [(I, φ i)]) m cm S s) (fun k s hk => ?_) n ⟨0, m, cm, S, Nat.zero_add _, i0, X₂⟩
  obtain ⟨i, m, cm, S, hik, hinv, X⟩ := hk
  rcases Nat.lt_or_ge i n with hi | hi
  · refine hno (X'.item i s _ hi X.lastAt (hsrc _ _ _ _ _ _ hinv X) fun v h' tk hv hI' hext => ?_)
    have X1 := X.repin (t := tk) hI' hext
    refine hno (it_go X' X1.lastAt ?_)
    refine hno (WA.mono (turn i I (φ (i + 1)) m cm S _ v hi hinv hv X1) fun _ s₂ h₂ => hno (WA.mono h₂ fun f s₃ h₃ => ?_))
    cases f with
    | next => obtain ⟨m, cm, S, a, b⟩ := h₃; exact ⟨k - 1, by omega, i + 1, m, cm, S, by omega, a, b⟩
    | cont => obtain ⟨m, cm, S, a, b⟩ := h₃; exact ⟨k - 1, by omega, i + 1, m, cm, S, by omega, a, b⟩
    | brk => exact h₃
    | ret v => exact h₃
  · have e : i = n := by omega
    subst e
    refine hno (X'.done s _ X.lastAt (hsrc _ _ _ _ _ _ hinv X) fun h' tk hext => ?_)
    exact hno (fin m cm S _ hinv (X.drop hext))
end
end Mine
end

section
open PySem PySem.W PySem.Calls PyProof.Rows
namespace Mine

def DicK (w : World) (kvs : List (Int × Value)) (o : Obj) : Prop := ∃ ep, DicI w kvs ep o
theorem Has.dictOf {w : World} {h : Heap} {d : Addr} {kvs : List (Int × Value)} (x : Has h d (DicK w kvs)) : h.DictOf (KI w) d kvs := let ⟨o, e, ep, y⟩ := x; Heap.DictAt.dictOf (Has.dictAt ⟨o, e, y⟩)
theorem Has.dictK {w : World} {h : Heap} {d : Addr} {kvs : List (Int × Value)} (x : h.DictOf (KI w) d kvs) : Has h d (DicK w kvs) := let ⟨ep, y⟩ := x.dictAt; let ⟨o, e, z⟩ := dictAtHasI y; ⟨o, e, ep, z⟩
theorem Has.ep {w : World} {h : Heap} {d : Addr} {kvs : List (Int × Value)} (x : Has h d (DicK w kvs)) : ∃ ep, Has h d (DicI w kvs ep) := let ⟨o, e, ep, y⟩ := x; ⟨ep, o, e, y⟩
theorem Has.unep {w : World} {h : Heap} {d : Addr} {kvs : List (Int × Value)} {ep : Nat} (x : Has h d (DicI w kvs ep)) : Has h d (DicK w kvs) := let ⟨o, e, y⟩ := x; ⟨o, e, ep, y⟩
theorem Has.listOf {h : Heap} {l : Addr} {xs : List Value} (x : Has h l (LstI xs)) : h.IsList l xs.toArray := by obtain ⟨n, e⟩ := x.out; exact ⟨_, e, rfl, n, rfl⟩
theorem Has.tupOf {h : Heap} {l : Addr} {xs : List Value} (x : Has h l (TupI xs)) : h.IsTuple l xs.toArray := by obtain ⟨n, e⟩ := x.out; exact ⟨_, e, rfl, n, rfl⟩

section
variable {w : World} {A : Around} {s : Shared} {env : Env}

theorem notSys {h : Heap} (T : Stat w h) {a : Addr} (e : h.objs.size ≤ a) : (a == sysModules) = false := by
  have hl : ∃ o, (Kf w).lookup 424 = some o := ⟨_, by exact rfl⟩
  obtain ⟨o, hl⟩ := hl
  have h1 : (424 : Nat) < h.objs.size := Heap.lt_size (T.K _ _ hl)
  refine beq_eq_false_iff_ne.mpr fun q => ?_
  have e1 : a = (1 : Nat) := q
  rw [e1] at e
  exact absurd (Nat.lt_of_lt_of_le h1 e) (by decide)

-- dicts with int keys
theorem d_in {d : Addr} {kvs : List (Int × Value)} {k : Int} {t : Tok} {Q : Value → Shared → Prop} (hd : (d == sysModules) = false) (hm : Has s.heap d (DicK w kvs))
    (h : ∀ s', Grow s s' → Q (.bool (valueAt kvs k).isSome) s') : WA w A (compareOp .In (.int k t) (.ref d)) Q s :=
  wpAny_in_of (intKind_is Pr w k t) hd hm.dictOf.mapOf (h _ (Grow.tok s _))
theorem d_notin {d : Addr} {kvs : List (Int × Value)} {k : Int} {t : Tok} {Q : Value → Shared → Prop} (hd : (d == sysModules) = false) (hm : Has s.heap d (DicK w kvs))
    (h : ∀ s', Grow s s' → Q (.bool (!(valueAt kvs k).isSome)) s') : WA w A (compareOp .NotIn (.int k t) (.ref d)) Q s :=
  wpAny_notIn_of (intKind_is Pr w k t) hd hm.dictOf.mapOf (h _ (Grow.tok s _))
theorem d_get {d : Addr} {kvs : List (Int × Value)} {k : Int} {t : Tok} {v : Value} {Q : Value → Shared → Prop} (hm : Has s.heap d (DicK w kvs)) (hv : valueAt kvs k = some v)
    (h : ∀ s', Grow s s' → Q v s') : WA w A (getItem (.ref d) (.int k t)) Q s :=
  wpAny_getItem_of (intKind_is Pr w k t) hm.dictOf.mapOf hv (h _ (Grow.tok s _))
theorem d_set {d : Addr} {kvs : List (Int × Value)} {k : Int} {t : Tok} {v : Value} {Q : Unit → Shared → Prop} (hm : Has s.heap d (DicK w kvs)) (hz : kvs.length ≤ 900)
    (h : ∀ h' tk, Has h' d (DicK w (stored kvs k v)) → Heap.SameBut d s.heap h' → Q () { s with heap := h', toks := tk }) : WA w A (setItem (.ref d) (.int k t) v) Q s :=
  wpAny_setItem_pairs (intKind_is Pr w k t) hm.dictOf (fun h' a b => h h' _ (Has.dictK a) b) (by rw [sizeLine_eq]; omega)
theorem d_del {d : Addr} {kvs : List (Int × Value)} {k : Int} {t : Tok} {Q : Unit → Shared → Prop} (hm : Has s.heap d (DicK w kvs)) (hv : (valueAt kvs k).isSome = true) (hz : kvs.length ≤ 900)
    (h : ∀ h' tk, Has h' d (DicK w (without kvs k)) → Heap.SameBut d s.heap h' → Q () { s with heap := h', toks := tk }) : WA w A (delItem (.ref d) (.int k t)) Q s := by
  refine wpAny_delItem_slot hm.dictOf.typeIs (by decide) F.slot_dict_delitem (wpAny_call_entry F.slot_dict_delitem hm.dictOf.typeIs F.entry_dict_delitem ?_ (F.args_dict_delitem_2 _ _))
  unfold Builtin.«dict.__delitem__»
  refine wpAny_bind (m := Builtin.Dict.dictSlotArgs "__delitem__" _) ?_
  unfold Builtin.Dict.dictSlotArgs
  refine wpAny_bind (wpAny_notOrdered_dict hm.dictOf.typeIs (wpAny_pure ?_))
  show wpAny _ _ (pure d >>= _) _ _ s
  refine wpAny_bind (wpAny_pure ?_)
  refine wpAny_bind (wpAny_takeOut_pairs (knd := KI w) (k := k) (intKind_is Pr w k t) hm.dictOf (fun e => by rw [e] at hv; cases hv) (fun e _ _ h' a b => ?_) (by rw [sizeLine_eq]; omega))
  exact wpAny_bind (wpAny_letGo (wpAny_pure ⟨_, rfl, h h' _ (Has.dictK a) b⟩))
theorem d_empty {p : Pos} {Q : Value → Shared → Prop} (T : Stat w s.heap) (h : ∀ d s', Grow s s' → Has s'.heap d (DicK w []) → s.heap.get? d = none → (d == sysModules) = false → Q (.ref d) s') :
    WA w A (eval (.Dict [] [] p) env) Q s := by
  refine wpAny_Dict_empty (h _ _ (Grow.alloc _ _) ⟨_, Heap.get?_push_size _ rfl, 0, ⟨rfl, rfl, rfl⟩, #[], rfl, ?_, ?_, ?_⟩ (Heap.get?_none_of_le (Nat.le_refl _)) (notSys T (Nat.le_refl _)))
  · intro e he; simp at he
  · exact Pairs.nil
  · simp
theorem d_truth {d : Addr} {kvs : List (Int × Value)} {Q : Bool → Shared → Prop} (hd : (d == sysModules) = false) (hm : Has s.heap d (DicK w kvs)) (hz : kvs.length ≤ 900)
    (h : ∀ s', Grow s s' → Q (!kvs.isEmpty) s') : WA w A (truthy (.ref d)) Q s :=
  wpAny_truthy_dict hd hm.dictOf (by omega) (h _ (Grow.tok s _))

-- items of lists and tuples
theorem l_get {l : Addr} {xs : List Value} {i : Nat} {t : Tok} {x : Value} {Q : Value → Shared → Prop} (hl : Has s.heap l (LstI xs)) (hx : xs[i]? = some x) (hz : xs.length ≤ 900)
    (h : Q x s) : WA w A (getItem (.ref l) (.int i t)) Q s :=
  wpAny_getItem_list hl.listOf (by omega) (by have := (List.getElem?_eq_some_iff.mp hx).1; omega) (by simpa using hx) h
theorem t_get {l : Addr} {xs : List Value} {i : Int} {k : Nat} {t : Tok} {x : Value} {Q : Value → Shared → Prop} (hl : Has s.heap l (TupI xs)) (h1 : -1000 ≤ i) (h2 : i ≤ 1000) (hk : seqIndex? i xs.length = some k) (hx : xs[k]? = some x)
    (h : Q x s) : WA w A (getItem (.ref l) (.int i t)) Q s := by
  obtain ⟨n, hl⟩ := hl.out
  exact P.getItem_tuple (n := n) hl (by omega) (by omega) (by simpa using hk) (by simpa using hx) h

theorem inPyList {l : Addr} {xs : List Value} {h : Heap} (T : Stat w h) (hl : Has h l (LstI xs)) : Looks (model Pr w) h (getitemInPython (.ref l)) false := by
  obtain ⟨n, hl⟩ := hl.out
  exact inPy T.K hl rfl bmL__getitem__
theorem inPyTy {a : Addr} {o : Obj} {n : String} {id : String} {h : Heap} (ho : h.get? a = some o) (hc : o.cls = .type n) (hl : typeLookup (.type n) "__getitem__" = pure (some (.builtin id))) :
    Looks (model Pr w) h (getitemInPython (.ref a)) false := by
  unfold getitemInPython specialOf
  exact (((Looks.ld ho).andThen .now : Looks (model Pr w) h (typeOf (.ref a)) o.cls).andThen (by rw [hc, hl]; exact .now)).andThen .now
theorem inPyTup {l : Addr} {xs : List Value} {h : Heap} (hl : Has h l (TupI xs)) : Looks (model Pr w) h (getitemInPython (.ref l)) false := by
  obtain ⟨n, hl⟩ := hl.out
  exact inPyTy hl rfl F.slot_tuple_getitem.lookup
theorem inPyDict {l : Addr} {kvs : List (Int × Value)} {h : Heap} (hl : Has h l (DicK w kvs)) : Looks (model Pr w) h (getitemInPython (.ref l)) false := by
  obtain ⟨o, ho, ep, hx, _⟩ := hl
  exact inPyTy ho hx.1 slot_dict_getitem.lookup

/-- a subscript that is no slice -/
theorem r_sub {value slice : Expr} {pos : Pos} {Q : Value → Shared → Prop}
    (h : WA w A (eval value env) (fun o s₁ => WA w A (eval slice env) (fun i s₂ => Looks (model Pr w) s₂.heap (getitemInPython o) false ∧ WA w A (getItem o i) Q s₂) s₁) s)
    (hs : ∀ o i, ∃ l, subscripted slice false o i = operate l (getItem o i) := by exact fun o i => ⟨[o, i], by with_unfolding_all rfl⟩) : WA w A (eval (.Subscript value slice pos) env) Q s := g_sub h hs

-- displays
theorem r_list {elts : List Expr} {pos : Pos} {Q : Value → Shared → Prop}
    (h : WA w A (spliced (backTo pos (starEach elts env))) (fun vs s₁ => vs.length ≤ 900 ∧ ∀ l s', Grow s₁ s' → Has s'.heap l (LstI vs) → s₁.heap.get? l = none → Q (.ref l) s') s) : WA w A (eval (.List elts pos) env) Q s :=
  wpAny_List_spliced (WA.mono h fun vs s₁ h => ⟨by rw [sizeLine_eq]; omega, h.2 _ _ (Grow.alloc _ _) (Has.seq (n := 0) (Heap.get?_push_size _ rfl)) (Heap.get?_none_of_le (Nat.le_refl _))⟩)
theorem r_tuple {elts : List Expr} {k : Nat} {pos : Pos} {Q : Value → Shared → Prop}
    (h : WA w A (spliced (backTo pos (starEach elts env))) (fun vs s₁ => vs.length ≤ 900 ∧ ∀ l s', Grow s₁ s' → Has s'.heap l (TupI vs) → s₁.heap.get? l = none → Q (.ref l) s') s) : WA w A (eval (.Tuple elts k pos) env) Q s :=
  wpAny_Tuple_spliced (WA.mono h fun vs s₁ h => ⟨by rw [sizeLine_eq]; omega, h.2 _ _ (Grow.alloc _ _) (Has.seq (n := 0) (Heap.get?_push_size _ rfl)) (Heap.get?_none_of_le (Nat.le_refl _))⟩)

-- assignments
theorem a_name {x : Str} {p : Pos} {v : Value} {Q : Unit → Shared → Prop} (h : WA w A (storeName env x v) Q s) : WA w A (assign (.Name x p) env v) Q s := wpAny_assign_Name h
theorem a_tup {elts : List Expr} {k : Nat} {pos : Pos} {t : Addr} {vs : List Value} {Q : Unit → Shared → Prop} (hh : A.handled = none) (ht : Has s.heap t (TupI vs))
    (h : ∀ s', Grow s s' → WA w A (assignInOrder ((assignEach elts env).map (·.2)) vs) Q s')
    (hn : (assignEach elts env).length = vs.length := by rfl) (hstar : (assignEach elts env).findIdx? (·.1) = none := by rfl) :
    WA w A (assign (.Tuple elts k pos) env (.ref t)) Q s :=
  wpAny_assign_Tuple hh ht.tupOf (by simpa using hn) hstar fun h' e => h _ (Grow.of (t := s.toks) ⟨fun b o q => e b o (Nat.ne_of_lt (Heap.lt_size q)) q⟩)
theorem ao_nil {xs : List Value} {Q : Unit → Shared → Prop} (h : Q () s) : WA w A (assignInOrder [] xs) Q s := wpAny_pure h
theorem ao_cons {t : Value → Sem Unit} {ts : List (Value → Sem Unit)} {x : Value} {xs : List Value} {Q : Unit → Shared → Prop}
    (h : WA w A (t x) (fun _ s' => WA w A (assignInOrder ts xs) Q s') s) : WA w A (assignInOrder (t :: ts) (x :: xs)) Q s := assignInOrder_cons h
theorem r_assignTup {elts : List Expr} {k : Nat} {tpos pos : Pos} {value : Expr} {rest : List Stmt} {Q : Flow → Shared → Prop}
    (h : WA w A (eval value env) (fun v s₁ => WA w A (assign (.Tuple elts k tpos) env v) (fun _ s₂ => WA w A (execs rest env) Q s₂) s₁) s)
    (hs : swapsWithSole [.Tuple elts k tpos] value pos.line env = pure false := by rfl)
    (hw : swappedStores [.Tuple elts k tpos] value env = pure none := by rfl) : WA w A (execs (.Assign [.Tuple elts k tpos] value pos :: rest) env) Q s :=
  r_seq (Assign_Tuple h hs hw)
theorem r_assignSub {o i value : Expr} {p' p : Pos} {rest : List Stmt} {Q : Flow → Shared → Prop}
    (h : WA w A (eval value env) (fun v s₁ => WA w A (eval o env) (fun ov s₂ => WA w A (eval i env) (fun iv s₃ => WA w A (setItem ov iv v) (fun _ s₄ => WA w A (execs rest env) Q s₄) s₃) s₂) s₁) s)
    (hs : swapsWith value (some (.Subscript o i p')) p.line env = pure false := by rfl) : WA w A (execs (.Assign [.Subscript o i p'] value p :: rest) env) Q s := r_seq (wpAny_Assign_Subscript h hs)
theorem r_assignAttr {o value : Expr} {attr : Str} {p' p : Pos} {rest : List Stmt} {Q : Flow → Shared → Prop}
    (h : WA w A (eval value env) (fun v s₁ => WA w A (eval o env) (fun ov s₂ => WA w A (setAttr ov attr v) (fun _ s₃ => WA w A (execs rest env) Q s₃) s₂) s₁) s)
    (hs : swapsWith value (some (.Attribute o attr p')) p.line env = pure false := by rfl) : WA w A (execs (.Assign [.Attribute o attr p'] value p :: rest) env) Q s := r_seq (plainObj_wpAny_Assign_Attribute h hs)
theorem r_aug {x : Str} {p' p : Pos} {op : Operator} {value : Expr} {rest : List Stmt} {Q : Flow → Shared → Prop}
    (h : WA w A (loadName env x) (fun old s₁ => WA w A (eval value env) (fun v s₂ => WA w A (inplaceOp op old v) (fun r s₃ => WA w A (storeName env x r) (fun _ s₄ => WA w A (execs rest env) Q s₄) s₃) s₂) s₁) s) :
    WA w A (execs (.AugAssign (.Name x p') op value p :: rest) env) Q s := r_seq (wpAny_AugAssign_Name h)
theorem r_loadLocal {ι : Type} {c : Cx} {P : List (Addr × (Obj → Prop))} {m cm : Loc} {S : Sto ι} {x : Str} {v : Value} {Q : Value → Shared → Prop} (X : St c P m cm S s) (hv : m.lookup x = some v) (h : Q v s)
    (hL : env.locals = c.L := by rfl) (hk : env.scope.kind = .function := by rfl) (hl : env.kindOf x = some .local := by rfl) : WA w A (loadName env x) Q s := by
  obtain ⟨M, hM, hm⟩ := X.locals
  exact wpAny_loadName_local hk hl (hL ▸ hM) (hm x v hv) h
theorem r_delSub {o i : Expr} {pos p2 : Pos} {rest : List Stmt} {Q : Flow → Shared → Prop}
    (h : WA w A (eval o env) (fun ov s₁ => WA w A (eval i env) (fun iv s₂ => WA w A (delItem ov iv) (fun _ s₃ => WA w A (execs rest env) Q s₃) s₂) s₁) s)
    (he : delete (.Subscript o i pos) env = (do
      let ov ← eval o env
      let iv ← holding [ov] (eval i env)
      standAt pos
      holding [ov, iv] (delItem ov iv)
      release [ov, iv] []) := by with_unfolding_all rfl) :
    WA w A (execs (.Delete [.Subscript o i pos] p2 :: rest) env) Q s := by
  refine r_seq (wpAny_Delete (wpAny_deleteEach_cons ?_))
  rw [he]
  refine wpAny_bind (WA.mono h fun ov s₁ h₁ => wpAny_bind (wpAny_holding (WA.mono h₁ fun iv s₂ h₂ => wpAny_bind (wpAny_standAt (wpAny_bind (wpAny_holding (WA.mono h₂ fun _ s₃ h₃ => ?_)))))))
  refine fun Γ p hΓ => ?_
  rw [Sem.wp_release]
  exact wpAny_deleteEach_nil (Q := fun _ s₁ => Kont w A env rest Q .next s₁) h₃

-- while-loops
def TurnW (w : World) (A : Around) (env : Env) {ι : Type} (c : Cx) (P : List (Addr × (Obj → Prop))) (inv : Nat → Loc → Loc → Sto ι → Prop) (k : Nat) (rest : List Stmt) (Q : Flow → Shared → Prop) : Flow → Shared → Prop :=
  fun f s' => match f with
  | .next | .cont => ∃ j m cm S, j < k ∧ inv j m cm S ∧ St c P m cm S s'
  | .brk => WA w A (execs rest env) Q s'
  | .ret v => Q (.ret v) s'
theorem r_while {ι : Type} {c : Cx} {P : List (Addr × (Obj → Prop))} {test : Expr} {body orelse rest : List Stmt} {p : Pos} {Q : Flow → Shared → Prop} (inv : Nat → Loc → Loc → Sto ι → Prop)
    (n : Nat) {m cm : Loc} {S : Sto ι} (h0 : inv n m cm S) (X : St c P m cm S s)
    (turn : ∀ k m cm S s, inv k m cm S → St c P m cm S s → WA w A (isTrue test env (eval test env)) (fun b s₂ =>
      if b = true then WA w A (execs body env) (TurnW w A env c P inv k rest Q) s₂ else WA w A (execs orelse env) (Kont w A env rest Q) s₂) s) :
    WA w A (execs (.While test body orelse p :: rest) env) Q s := by
  have hno : ∀ {α : Type} {t : Sem α} {Q : α → Shared → Prop} {s : Shared} {E : Value → Shared → Prop}, WA w A t Q s → wpAny (model Pr w) A t Q E s := fun x => wpAny_mono x (fun _ _ q => q) fun _ _ q => q.elim
  refine r_seq (wpAny_While (codeAny_whileLoop (fun k s => ∃ m cm S, inv k m cm S ∧ St c P m cm S s) (fun k s hk => ?_) n ⟨m, cm, S, h0, X⟩))
  obtain ⟨m, cm, S, hi, X⟩ := hk
  refine hno (WA.mono (turn k m cm S s hi X) fun b s₂ h₂ => ?_)
  cases b with
  | true =>
    refine hno (WA.mono h₂ fun f s₃ h₃ => ?_)
    cases f with
    | next => obtain ⟨j, m, cm, S, hj, a, b⟩ := h₃; exact ⟨j, hj, m, cm, S, a, b⟩
    | cont => obtain ⟨j, m, cm, S, hj, a, b⟩ := h₃; exact ⟨j, hj, m, cm, S, a, b⟩
    | brk => exact h₃
    | ret v => exact h₃
  | false => exact hno h₂
end
end Mine
end

section
open PySem PySem.W PySem.Calls PyProof.Rows
namespace Mine

section
variable {w : World} {A : Around} {s : Shared} {env : Env}

theorem noE {α : Type} {t : Sem α} {Q : α → Shared → Prop} {s : Shared} {E : Value → Shared → Prop} (x : WA w A t Q s) : wpAny (model Pr w) A t Q E s := wpAny_mono x (fun _ _ q => q) fun _ _ q => q.elim

abbrev tests (ifs : List Expr) (env : Env) : Sem Bool :=
  forIn ifs true fun c r => if r = true then do let ok ← isTrue c env (eval c env); pure (ForInStep.yield ok) else pure (ForInStep.yield r)
theorem te_nil {Q : Bool → Shared → Prop} (h : Q true s) : WA w A (tests [] env) Q s := wpAny_pure h
theorem te_one {c : Expr} {Q : Bool → Shared → Prop} (h : WA w A (isTrue c env (eval c env)) Q s) : WA w A (tests [c] env) Q s := wpAny_tests_one h

abbrev turnTree (e : Expr) (d : Nat) (ipos : Pos) (target : Expr) (ifs : List Expr) (it acc : Value) (env : Env) (emit : Sem Unit) : Sem Fin :=
  standAt ipos >>= fun _ => pyNext it >>= fun r => match r with
    | none => pure (.done .next)
    | some v => letOwnedTupleGo target it v >>= fun _ => assign target env v >>= fun _ => tests ifs env >>= fun ok =>
      if ok = true then emit >>= fun _ => again (.compLoop e d it acc env) else again (.compLoop e d it acc env)

def TurnC {ι : Type} (c : Cx) (P : List (Addr × (Obj → Prop))) (I : Addr) (ψ : Obj → Prop) (inv : Loc → Loc → Sto ι → Prop) (s : Shared) : Prop :=
  ∃ m cm S, inv m cm S ∧ St c (P ++ [(I, ψ)]) m cm S s

theorem r_cloop {ι : Type} {c : Cx} {P : List (Addr × (Obj → Prop))} {e : Expr} {d : Nat} {ipos : Pos} {target : Expr} {ifs : List Expr} {I : Addr} {acc : Value} {emit : Sem Unit} {n : Nat} {val : Nat → Value → Prop} {φ : Nat → Obj → Prop} {src : Heap → Prop}
    {R : Result → Shared → Prop} (X' : It w A I n val φ src) (inv : Nat → Loc → Loc → Sto ι → Prop) {m cm : Loc} {S : Sto ι} (h0 : inv 0 m cm S) (X : St c (P ++ [(I, φ 0)]) m cm S s)
    (hsrc : ∀ i P' m cm S s, inv i m cm S → St c P' m cm S s → src s.heap)
    (turn : ∀ i ψ m cm S s v, i < n → inv i m cm S → val i v → St c (P ++ [(I, ψ)]) m cm S s → WA w A (assign target env v) (fun _ s₂ => WA w A (tests ifs env) (fun ok s₃ =>
      if ok = true then WA w A emit (fun _ s₄ => TurnC c P I ψ (inv (i + 1)) s₄) s₃ else TurnC c P I ψ (inv (i + 1)) s₃) s₂) s)
    (fin : ∀ m cm S s, inv n m cm S → St c P m cm S s → R (.ok .next) s)
    (hf : (Code.compLoop e d (.ref I) acc env).isFrame = false := by rfl) (hq : (Code.compLoop e d (.ref I) acc env).quiet = true := by rfl)
    (hw : (Code.compLoop e d (.ref I) acc env).weight = 0 := by rfl) (hu : (Code.compLoop e d (.ref I) acc env).cUnits = 0 := by rfl)
    (he : compTurn e d (.ref I) acc env = turnTree e d ipos target ifs (.ref I) acc env emit := by with_unfolding_all rfl) :
    codeAny (model Pr w) A (.compLoop e d (.ref I) acc env) R s := by
  refine codeAny_loop hq (fun k s => ∃ i m cm S, i + k = n ∧ inv i m cm S ∧ St c (P ++ [(I, φ i)]) m cm S s) (fun k s hk => ?_) n ⟨0, m, cm, S, Nat.zero_add _, h0, X⟩
  obtain ⟨i, m, cm, S, hik, hinv, X⟩ := hk
  have hd : denote table (.compLoop e d (.ref I) acc env) = (compTurn e d (.ref I) acc env).onRaise (fun x => do noteFrame x env; theTreesLotGoes x) := by
    show (if (Code.compLoop e d (.ref I) acc env).isFrame then _ else _) = _
    rw [hf]; rfl
  rw [Around.under_of_weight hw hu]
  show wpAny _ A (denote table (.compLoop e d (.ref I) acc env)) _ _ s
  rw [hd]
  refine wpAny_noted ?_
  rw [he]
  refine wpAny_bind (wpAny_standAt ?_)
  rcases Nat.lt_or_ge i n with hi | hi
  · refine wpAny_bind (noE (X'.item i s _ hi X.lastAt (hsrc _ _ _ _ _ _ hinv X) fun v h' tk hv hI' hext => ?_))
    have X1 := X.repin (t := tk) hI' hext
    refine wpAny_bind (noE (it_go X' X1.lastAt ?_))
    refine wpAny_bind (noE (WA.mono (turn i (φ (i + 1)) m cm S _ v hi hinv hv X1) fun _ s₂ h₂ => wpAny_bind (noE (WA.mono h₂ fun ok s₃ h₃ => ?_))))
    cases ok with
    | true =>
      refine wpAny_bind (noE (WA.mono h₃ fun _ s₄ h₄ => ?_))
      obtain ⟨m, cm, S, a, b⟩ := h₄
      exact wpAny_pure ⟨rfl, k - 1, by omega, i + 1, m, cm, S, by omega, a, b⟩
    | false =>
      obtain ⟨m, cm, S, a, b⟩ := h₃
      exact wpAny_pure ⟨rfl, k - 1, by omega, i + 1, m, cm, S, by omega, a, b⟩
  · have e : i = n := by omega
    subst e
    refine wpAny_bind (noE (X'.done s _ X.lastAt (hsrc _ _ _ _ _ _ hinv X) fun h' tk hext => ?_))
    exact wpAny_pure (fin m cm S _ hinv (X.drop hext))

theorem r_cstart {e : Expr} {d : Nat} {ipos : Pos} {I : Addr} {acc : Value} {n : Nat} {val : Nat → Value → Prop} {φ : Nat → Obj → Prop} {src : Heap → Prop} {R : Result → Shared → Prop}
    (X' : It w A I n val φ src) {i : Nat} (hI : Has s.heap I (φ i)) (h : codeAny (model Pr w) A (.compLoop e d (.ref I) acc env) R s)
    (hf : (Code.compStart e d (.ref I) acc env).isFrame = false := by rfl) (hq : (Code.compLoop e d (.ref I) acc env).quiet = true := by rfl)
    (hw : (Code.compStart e d (.ref I) acc env).weight = 0 := by rfl) (hu : (Code.compStart e d (.ref I) acc env).cUnits = 0 := by rfl)
    (he : compStart e d (.ref I) acc env = (do
      if (← ask).params.followText "comprehension-iter-twice" then return ← again (.compLoop e d (.ref I) acc env)
      rule "comprehension.iter-twice"
      standAt ipos
      again (.compLoop e d (← pyIter (.ref I)) acc env)) := by with_unfolding_all rfl) :
    codeAny (model Pr w) A (.compStart e d (.ref I) acc env) R s := by
  refine codeAny_of_tree ?_
  rw [Around.under_of_weight hw hu]
  have hd : denote table (.compStart e d (.ref I) acc env) = (compStart e d (.ref I) acc env).onRaise (fun x => do noteFrame x env; standAt theWindowsPlace) := by
    show (if (Code.compStart e d (.ref I) acc env).isFrame then _ else _) = _
    rw [hf]; rfl
  show wpAny _ A (denote table (.compStart e d (.ref I) acc env)) _ _ s
  rw [hd]
  refine wpAny_notedAt ?_
  rw [he]
  show wpAny _ _ (ask >>= _) _ _ s
  refine wpAny_bind (wpAny_askSetting (wpAny_ite ?_))
  split
  · first
      | exact wpAny_bind (wpAny_pure (wpAny_pure (And.intro hq h)))
      | exact wpAny_pure (And.intro hq h)
  · first
      | exact wpAny_bind (wpAny_rule (wpAny_bind (wpAny_standAt (wpAny_bind (noE (X'.self i s _ hI (wpAny_pure (And.intro hq h))))))))
      | (refine wpAny_bind (wpAny_rule ?_); show wpAny _ _ (standAt ipos >>= _) _ _ s; exact wpAny_bind (wpAny_standAt (wpAny_bind (noE (X'.self i s _ hI (wpAny_pure (And.intro hq h)))))))

theorem em_list {elt : Expr} {acc : Value} {Q : Unit → Shared → Prop} (h : WA w A (eval elt env) (fun y s₁ => WA w A (call (.builtin "list.append") [acc, y]) (fun _ s₂ => Q () s₂) s₁) s) :
    WA w A (do let _ ← call (.builtin "list.append") [acc, ← eval elt env]) Q s :=
  wpAny_bind (WA.mono h fun y s₁ h₁ => wpAny_bind (WA.mono h₁ fun _ s₂ h₂ => wpAny_pure h₂))

theorem St.led {ι : Type} {c : Cx} {P : List (Addr × (Obj → Prop))} {m cm : Loc} {S : Sto ι} {s : Shared} (X : St c P m cm S s) : Led c.g s.heap S :=
  ⟨fun l a φ e => ⟨(X.own.has (.lab l) a φ e).2, (X.own.has (.lab l) a φ e).1⟩, fun l l' a φ φ' e e' => X.inj e e'⟩

/-- a new frame's beginning -/
theorem St.begin {ι : Type} {S : Sto ι} {g : Heap} {L : Addr} {s₀ s : Shared} {cs : List (Str × Addr)} {m : Loc} (hc : Chg g s₀ s) (hS : Led g s.heap S) (hL : Has s.heap L (locP m)) (nL : g.get? L = none)
    (hcs : cs = []) (hne : ∀ l φ, S l ≠ some (L, φ)) : St ⟨g, L, cs, s₀⟩ [] m [] S s := by
  subst hcs
  refine ⟨hc, ⟨fun t a φ e => ?_, fun t t' a φ φ' e e' => ?_⟩⟩
  · cases t with
    | loc => cases e; exact ⟨nL, hL⟩
    | cel x => cases e
    | pin k => cases e
    | lab l => exact ⟨(hS.has l a φ e).2, (hS.has l a φ e).1⟩
  · cases t with
    | cel x => cases e
    | pin k => cases e
    | loc =>
      cases e
      cases t' with
      | loc => rfl
      | cel x => cases e'
      | pin k => cases e'
      | lab l => exact absurd e' (hne l _)
    | lab l =>
      cases t' with
      | loc => cases e'; exact absurd e (hne l _)
      | cel x => cases e'
      | pin k => cases e'
      | lab l' => rw [hS.inj l l' _ _ _ e e']

/-- what a comprehension has made -/
structure Made (s₁ s' : Shared) {ι : Type} (S : Sto ι) : Prop where
  grow : Grow s₁ s'
  led : Led s₁.heap s'.heap S

theorem Made.out {ι : Type} {s₁ : Shared} {C : Addr} {P : List (Addr × (Obj → Prop))} {m cm : Loc} {S : Sto ι} {s' : Shared} (X : St ⟨s₁.heap, C, [], s₁⟩ P m cm S s') {h' : Heap} (hs : Ext C s'.heap h') :
    Made s₁ { s' with heap := h' } S := by
  have hC : s₁.heap.get? C = none := (X.own.has .loc C _ rfl).1
  refine ⟨⟨⟨fun a o e => hs a o (fun q => ?_) (X.chg.sub.get a o e)⟩, X.chg.gens, X.chg.drawn, X.chg.os⟩, ⟨fun l a φ e => ?_, X.led.inj⟩⟩
  · rw [q, hC] at e; cases e
  · obtain ⟨⟨o, ho, hφ⟩, hn⟩ := X.led.has l a φ e
    refine ⟨⟨o, hs a o (fun q => ?_) ho, hφ⟩, hn⟩
    subst q
    have := X.own.inj (.lab l) .loc a φ _ e rfl
    cases this

theorem nsLoc {h : Heap} {C : Addr} (x : h.Ns C fun y => ([] : List (Str × Value)).reverse.lookup y) : Has h C (locP []) := by
  obtain ⟨o, es, ep, ho, hd, hk, hf⟩ := x
  exact ⟨o, ho, es, ep, hd, hk, fun x v q => by cases q⟩
theorem locNs {h : Heap} {C : Addr} {m : Loc} (x : Has h C (locP m)) : ∃ M, h.Ns C M := by
  obtain ⟨o, ho, es, ep, hd, hk, hf⟩ := x
  exact ⟨_, o, es, ep, ho, hd, hk, fun _ => rfl⟩

/-- the comprehension's inside, list or set -/
theorem comp_in {scope : Scope} {cl : List (Str × Addr)} {e : Expr} {φ₀ : Obj → Prop} {newAcc : Sem Value} {s₁ s₂ : Shared} {I : Addr} {φ : Nat → Obj → Prop} {RR : Value → Addr → Result → Shared → Prop}
    (hnew : ∀ (s : Shared) (Q : Value → Shared → Prop), (∀ D s', Grow s s' → Has s'.heap D φ₀ → s.heap.get? D = none → Q (.ref D) s') → WA w A newAcc Q s)
    (hcell : ∀ y ∈ scope.names, y.2 ≠ .cell) (hkind : scope.kind = .function) (g₂ : Grow s₁ s₂) (hI : Has s₂.heap I (φ 0)) (hfree : s₁.heap.get? I = none)
    (h : ∀ C D s, St ⟨s₁.heap, C, [], s₁⟩ ([] ++ [(I, φ 0)]) [] [] (listS [(D, φ₀)]) s → codeAny (model Pr w) A (.compStart e 0 (.ref I) (.ref D) (compEnvC scope cl C env)) (RR (.ref D) C) s) :
    WA w A newAcc (fun acc s₃ => WA w A (newFunctionEnv scope env.globals cl [] env.qual none .none (some env)) (fun cenv s₄ =>
      codeAny (model Pr w) A (.compStart e 0 (.ref I) acc { cenv with scope := relabel scope env }) (RR acc cenv.locals) s₄) s₃) s₂ := by
  refine hnew s₂ _ fun D s₃ g₃ hD hDfree => ?_
  refine wpAny_newFunctionEnv hcell (by intro y hy; simp at hy) (fun h₁ hns₁ hsb₁ => ?_) hkind
  have new : ∀ {b : Addr} {o : Obj}, s₃.heap.get? b = some o → b ≠ s₃.heap.objs.size := fun e => Nat.ne_of_lt (Heap.lt_size e)
  have up : ∀ b o, s₃.heap.get? b = some o → h₁.get? b = some o := fun b o e => hsb₁.extBut b o (new e) (Heap.get?_push_of_some _ e)
  have nb : ∀ {b : Addr}, s₃.heap.objs.size ≤ b → s₁.heap.get? b = none := fun {b} hb => by
    cases q : s₁.heap.get? b with
    | none => rfl
    | some o => exact absurd (Heap.lt_size (g₃.sub.get _ _ (g₂.sub.get _ _ q))) (Nat.not_lt.mpr hb)
  have hneD : D ≠ s₃.heap.objs.size := by obtain ⟨o, ho, _⟩ := hD; exact new ho
  have gg : Grow s₁ { s₃ with heap := h₁, toks := s₃.toks + ([] : List (Str × Value)).length } := ⟨⟨fun a o e => up a o (g₃.sub.get _ _ (g₂.sub.get _ _ e))⟩, g₃.gens.trans g₂.gens, g₃.drawn.trans g₂.drawn, g₃.os.trans g₂.os⟩
  have hDn : s₁.heap.get? D = none := g₂.sub.none hDfree
  have X0 : St ⟨s₁.heap, s₃.heap.objs.size, [], s₁⟩ [] [] [] (listS [(D, φ₀)]) { s₃ with heap := h₁, toks := s₃.toks + ([] : List (Str × Value)).length } :=
    St.begin gg (Led.one (hD.mono ⟨up⟩) hDn) (nsLoc hns₁) (nb (Nat.le_refl _)) rfl (fun l ψ q => by
      cases l with
      | zero => cases q; exact hneD rfl
      | succ l => cases q)
  refine h _ D _ ⟨X0.chg, ⟨fun t a ψ e => ?_, fun t t' a ψ ψ' e e' => ?_⟩⟩
  · cases t with
    | pin k =>
      cases k with
      | zero =>
        cases e
        exact ⟨hfree, hI.mono ⟨fun a o e => up a o (g₃.sub.get _ _ e)⟩⟩
      | succ k => cases e
    | loc => exact X0.own.has .loc a ψ e
    | cel x => cases e
    | lab l => exact X0.own.has (.lab l) a ψ e
  · have hIL : I ≠ s₃.heap.objs.size := by obtain ⟨o, ho, _⟩ := hI; exact new (g₃.sub.get _ _ ho)
    have hID : I ≠ D := fun q => by obtain ⟨o, ho, _⟩ := hI; rw [q, hDfree] at ho; cases ho
    have key : ∀ {t : Tag Nat} {b : Addr} {ψ : Obj → Prop}, mkW s₃.heap.objs.size [] [] [] ([] ++ [(I, φ 0)]) (listS [(D, φ₀)]) t = some (b, ψ) → (t = .pin 0 ∧ b = I) ∨ (t = .loc ∧ b = s₃.heap.objs.size) ∨ (t = .lab 0 ∧ b = D) := by
      intro t b ψ e
      cases t with
      | pin k => cases k with
        | zero => cases e; exact .inl ⟨rfl, rfl⟩
        | succ k => cases e
      | loc => cases e; exact .inr (.inl ⟨rfl, rfl⟩)
      | cel x => cases e
      | lab l => cases l with
        | zero => cases e; exact .inr (.inr ⟨rfl, rfl⟩)
        | succ l => cases e
    rcases key e with ⟨h1, h2⟩ | ⟨h1, h2⟩ | ⟨h1, h2⟩ <;> rcases key e' with ⟨h1', h2'⟩ | ⟨h1', h2'⟩ | ⟨h1', h2'⟩ <;> rw [h1, h1'] <;> exfalso <;> rw [h2] at h2' <;> first | exact hIL h2' | exact hIL h2'.symm | exact hID h2' | exact hID h2'.symm | exact hneD h2' | exact hneD h2'.symm

theorem new_list (s : Shared) (Q : Value → Shared → Prop) (h : ∀ D s', Grow s s' → Has s'.heap D (LstI []) → s.heap.get? D = none → Q (.ref D) s') : WA w A (newList []) Q s := by
  unfold newList
  exact wpAny_newObj_type (h _ _ (Grow.alloc _ _) (Has.seq (n := 0) (Heap.get?_push_size _ rfl)) (Heap.get?_none_of_le (Nat.le_refl _)))

/-- a list comprehension -/
theorem r_comp {elt target iter : Expr} {ifs : List Expr} {rest : List Comprehension} {scope : Scope} {pos : Pos} {cl : List (Str × Addr)} {Q : Value → Shared → Prop}
    (h : WA w A (eval iter env) (fun xv s₁ => ∃ (n : Nat) (val : Nat → Value → Prop) (src : Heap → Prop) (fin : Addr → Sto Nat → Prop), Itb w A xv s₁ n val src ∧
      (∀ C D I φ s, It w A I n val φ src → St ⟨s₁.heap, C, [], s₁⟩ ([] ++ [(I, φ 0)]) [] [] (listS [(D, LstI [])]) s →
        codeAny (model Pr w) A (.compLoop (.ListComp elt (⟨target, iter, ifs, 0⟩ :: rest) scope pos) 0 (.ref I) (.ref D) (compEnvC scope cl C env))
          (fun r s' => (∃ f, r = .ok f) ∧ ∃ P m cm S, St ⟨s₁.heap, C, [], s₁⟩ P m cm S s' ∧ fin D S) s) ∧
      (∀ D S s', Made s₁ s' S → fin D S → Q (.ref D) s')) s)
    (hclos : closureFor scope env = pure cl := by with_unfolding_all rfl) (hcell : ∀ y ∈ scope.names, y.2 ≠ .cell := by decide) (hkind : scope.kind = .function := by rfl)
    (hnames : ∀ x ∈ scope.names, x.2 = .local → scope.names.lookup x.1 = some .local := by decide)
    (hs : ∀ x, foldedSetIterable iter env x = pure x := by intro _; rfl) :
    WA w A (eval (.ListComp elt (⟨target, iter, ifs, 0⟩ :: rest) scope pos) env) Q s := by
  rw [eval_ListComp]
  refine wpAny_comprehension_free (use := none) rfl hs hclos hkind hnames (WA.mono h fun xv s₁ h₁ => ?_)
  obtain ⟨n, val, src, fin, B, run, out⟩ := h₁
  refine B _ fun I φ s₂ g₂ hI hfree X' => ?_
  refine comp_in (RR := fun acc C => compPost (model Pr w) A (fun _ _ => False) none Q acc C) new_list hcell hkind g₂ hI hfree fun C D s₃ X₃ => ?_
  refine r_cstart (ipos := iter.pos) X' X₃.lastAt (codeAny_mono (run C D I φ s₃ X' X₃) fun r s' hr => ?_)
  obtain ⟨⟨f, rfl⟩, P, m, cm, S, X₄, hfin⟩ := hr
  obtain ⟨M, hM⟩ := locNs (X₄.own.has .loc C _ rfl).2
  exact ⟨M, hM, fun h' hs' => out D S _ (Made.out X₄ hs'.extBut) hfin⟩
end
end Mine
end

section
open PySem PySem.W PySem.Calls PyProof.Rows
namespace Mine

/-- the ledger S'' is S and what was made -/
def Mrg {ι κ : Type} (S : Sto ι) (S' : Sto κ) (S'' : Sto ι) : Prop := ∃ f : κ → ι, ∀ l a φ, S'' l = some (a, φ) → S l = some (a, φ) ∨ ∃ j, l = f j ∧ S' j = some (a, φ)

section
variable {ι κ : Type} {c : Cx} {P : List (Addr × (Obj → Prop))} {m cm : Loc} {S S'' : Sto ι} {S' : Sto κ} {s s' : Shared}

theorem mkW_old {f : κ → ι} {t : Tag ι} {a : Addr} {φ : Obj → Prop} (hm : ∀ l a φ, S'' l = some (a, φ) → S l = some (a, φ) ∨ ∃ j, l = f j ∧ S' j = some (a, φ)) (e : mkW c.L m c.cs cm P S'' t = some (a, φ)) :
    mkW c.L m c.cs cm P S t = some (a, φ) ∨ ∃ j, t = .lab (f j) ∧ S' j = some (a, φ) := by
  cases t with
  | loc => exact .inl e
  | cel x => exact .inl e
  | pin k => exact .inl e
  | lab l =>
    rcases hm l a φ e with h | ⟨j, h1, h2⟩
    · exact .inl h
    · exact .inr ⟨j, by rw [h1], h2⟩

theorem St.merge (X : St c P m cm S s) (M : Made s s' S') (hm : Mrg S S' S'') : St c P m cm S'' s' := by
  obtain ⟨f, hm⟩ := hm
  have X' := X.grow M.grow
  have old : ∀ {t : Tag ι} {a : Addr} {φ : Obj → Prop}, mkW c.L m c.cs cm P S t = some (a, φ) → ∃ o, s.heap.get? a = some o := fun e => let ⟨_, o, ho, _⟩ := X.own.has _ _ _ e; ⟨o, ho⟩
  have ap : ∀ {t : Tag ι} {a b : Addr} {φ ψ : Obj → Prop} {j : κ}, mkW c.L m c.cs cm P S t = some (a, φ) → S' j = some (b, ψ) → a ≠ b := fun e e' q => by
    obtain ⟨o, ho⟩ := old e
    rw [q, (M.led.has _ _ _ e').2] at ho; cases ho
  refine ⟨X'.chg, ⟨fun t a φ e => ?_, fun t t' a φ φ' e e' => ?_⟩⟩
  · rcases mkW_old hm e with h | ⟨j, rfl, h⟩
    · exact X'.own.has t a φ h
    · obtain ⟨h1, h2⟩ := M.led.has j a φ h
      exact ⟨X.chg.sub.none h2, h1⟩
  · rcases mkW_old hm e with h | ⟨j, rfl, h⟩ <;> rcases mkW_old hm e' with h' | ⟨j', rfl, h'⟩
    · exact X'.own.inj t t' a φ φ' h h'
    · exact absurd rfl (ap h h')
    · exact absurd rfl (ap h' h)
    · rw [M.led.inj j j' a φ φ' h h']

theorem St.pinAny {C : Addr} {ψ : Obj → Prop} (X : St c P m cm S s) (hC : c.g.get? C = none) (hh : Has s.heap C ψ) (hne : ∀ t a φ, mkW c.L m c.cs cm P S t = some (a, φ) → a ≠ C) : St c (P ++ [(C, ψ)]) m cm S s := by
  have key : ∀ {t : Tag ι} {a : Addr} {φ : Obj → Prop}, mkW c.L m c.cs cm (P ++ [(C, ψ)]) S t = some (a, φ) → mkW c.L m c.cs cm P S t = some (a, φ) ∨ (t = .pin P.length ∧ a = C ∧ φ = ψ) := by
    intro t a φ e
    cases t with
    | loc => exact .inl e
    | cel x => exact .inl e
    | lab l => exact .inl e
    | pin k =>
      have ep : (P ++ [(C, ψ)])[k]? = some (a, φ) := e
      by_cases hl : k = P.length
      · subst hl
        rw [List.getElem?_append_right (Nat.le_refl _), Nat.sub_self] at ep
        cases ep
        exact .inr ⟨rfl, rfl, rfl⟩
      · have hlt : k < P.length := by
          have := (List.getElem?_eq_some_iff.mp ep).1
          rw [List.length_append] at this
          simp at this
          omega
        rw [List.getElem?_append_left hlt] at ep
        exact .inl ep
  refine ⟨X.chg, ⟨fun t a φ e => ?_, fun t t' a φ φ' e e' => ?_⟩⟩
  · rcases key e with h | ⟨_, rfl, rfl⟩
    · exact X.own.has t a φ h
    · exact ⟨hC, hh⟩
  · rcases key e with h | ⟨h1, h2, _⟩ <;> rcases key e' with h' | ⟨h1', h2', _⟩
    · exact X.own.inj t t' a φ φ' h h'
    · exact absurd h2' (hne _ _ _ h)
    · exact absurd h2 (hne _ _ _ h')
    · rw [h1, h1']
end

theorem Mrg.upd {ι : Type} [DecidableEq ι] {S : Sto ι} {l : ι} {p : Addr × (Obj → Prop)} : Mrg S (listS [p]) (updS S l p) := by
  refine ⟨fun _ => l, fun x a φ e => ?_⟩
  unfold updS at e
  by_cases h : x = l
  · rw [if_pos h] at e
    exact .inr ⟨0, h, e⟩
  · rw [if_neg h] at e
    exact .inl e

section
variable {w : World} {A : Around} {s : Shared} {env : Env}

/-- a name is given a comprehension (the name is stored before the frame is let go) -/
theorem r_assignComp {ι : Type} {elt target iter : Expr} {ifs : List Expr} {rest : List Comprehension} {scope : Scope} {pos spos py : Pos} {y : Str} {cl : List (Str × Addr)} {rs : List Stmt} {Q : Flow → Shared → Prop}
    (h : WA w A (eval iter env) (fun xv s₁ => ∃ (n : Nat) (val : Nat → Value → Prop) (src : Heap → Prop) (fin : Addr → Sto Nat → Prop), Itb w A xv s₁ n val src ∧
      (∀ C D I φ s, It w A I n val φ src → St ⟨s₁.heap, C, [], s₁⟩ ([] ++ [(I, φ 0)]) [] [] (listS [(D, LstI [])]) s →
        codeAny (model Pr w) A (.compLoop (.ListComp elt (⟨target, iter, ifs, 0⟩ :: rest) scope pos) 0 (.ref I) (.ref D) (compEnvC scope cl C env))
          (fun r s' => (∃ f, r = .ok f) ∧ ∃ P m cm S, St ⟨s₁.heap, C, [], s₁⟩ P m cm S s' ∧ fin D S) s) ∧
      ∃ (c : Cx) (P : List (Addr × (Obj → Prop))) (m cm : Loc) (S : Sto ι), env.locals = c.L ∧ St c P m cm S s₁ ∧
        (∀ D S', fin D S' → ∃ S'', Mrg S S' S'' ∧ ∀ s'', St c P ((y, .ref D) :: m) cm S'' s'' → WA w A (execs rs env) Q s'')) s)
    (hsw : swapsWith (.ListComp elt (⟨target, iter, ifs, 0⟩ :: rest) scope pos) (some (.Name y py)) spos.line env = pure true := by with_unfolding_all rfl)
    (hclos : closureFor scope env = pure cl := by with_unfolding_all rfl) (hcell : ∀ y ∈ scope.names, y.2 ≠ .cell := by decide) (hkind : scope.kind = .function := by rfl)
    (hnames : ∀ x ∈ scope.names, x.2 = .local → scope.names.lookup x.1 = some .local := by decide)
    (hk : env.scope.kind = .function := by rfl) (hl : env.kindOf y = some .local := by rfl)
    (hs : ∀ x, foldedSetIterable iter env x = pure x := by intro _; rfl) :
    WA w A (execs (.Assign [.Name y py] (.ListComp elt (⟨target, iter, ifs, 0⟩ :: rest) scope pos) spos :: rs) env) Q s := by
  refine r_seq ?_
  rw [exec_Assign_Name_used _ _ _ _ hsw]
  refine wpAny_bind (wpAny_standAt (wpAny_bind ?_))
  show wpAny _ A (do let _ ← comprehension (.ListComp elt (⟨target, iter, ifs, 0⟩ :: rest) scope pos) scope env _ (newList []) false (eval iter env) (some (assign (.Name y py) env))) _ _ s
  refine wpAny_bind (wpAny_mono (wpAny_comprehension_free (use := some (assign (.Name y py) env)) (Q := fun _ s' => WA w A (execs rs env) Q s') rfl hs hclos hkind hnames
    (WA.mono h fun xv s₁ h₁ => ?_)) (fun _ s' hq => wpAny_pure (wpAny_pure hq)) fun _ _ e => e)
  obtain ⟨n, val, src, fin, B, run, c, P, m, cm, S, hL, X₁, out⟩ := h₁
  refine B _ fun I φ s₂ g₂ hI hfree X' => ?_
  refine comp_in (RR := fun acc C => compPost (model Pr w) A (fun _ _ => False) (some (assign (.Name y py) env)) (fun _ s' => WA w A (execs rs env) Q s') acc C) new_list hcell hkind g₂ hI hfree fun C D s₃ X₃ => ?_
  refine r_cstart (ipos := iter.pos) X' X₃.lastAt (codeAny_mono (run C D I φ s₃ X' X₃) fun r s' hr => ?_)
  obtain ⟨⟨f, rfl⟩, P₂, m₂, cm₂, S', X₄, hfin⟩ := hr
  obtain ⟨S'', hmrg, hgo⟩ := out D S' hfin
  have M : Made s₁ s' S' := Made.out (h' := s'.heap) X₄ fun _ _ _ e => e
  have hC1 : s₁.heap.get? C = none := (X₄.own.has .loc C _ rfl).1
  have X₅ : St c (P ++ [(C, locP m₂)]) m cm S'' s' := by
    refine (X₁.merge M hmrg).pinAny (X₁.chg.sub.none hC1) (X₄.own.has .loc C _ rfl).2 fun t a φ e => ?_
    obtain ⟨f, hm⟩ := hmrg
    rcases mkW_old hm e with h | ⟨j, rfl, h⟩
    · obtain ⟨_, o, ho, _⟩ := X₁.own.has t a φ h
      rintro rfl
      rw [hC1] at ho; cases ho
    · rintro rfl
      have := X₄.own.inj (.lab j) .loc a φ _ h rfl
      cases this
  show wpAny _ A (assign (.Name y py) env (.ref D)) _ _ s'
  refine a_name (r_store X₅ (fun s'' X₆ => ?_) hL hk hl)
  obtain ⟨M₂, hM₂⟩ := locNs X₆.lastAt
  refine ⟨M₂, hM₂, fun h' hs' => ?_⟩
  exact hgo _ (X₆.drop (t := s''.toks) hs'.extBut)
end
end Mine
end

section
open PySem PySem.W PySem.Calls PyProof.Rows Builtin Builtin.ObjectAttr
namespace Mine

open Classical in
noncomputable def hide (h : Heap) (p : Addr → Prop) : Heap := ⟨h.objs.mapIdx fun i o => if p i then { o with data := .freed } else o, h.life⟩
theorem hide_get (h : Heap) (p : Addr → Prop) (a : Addr) : (p a → (hide h p).get? a = none) ∧ (¬ p a → (hide h p).get? a = h.get? a) := by
  unfold hide Heap.get?
  simp only [Array.getElem?_mapIdx]
  cases h.objs[a]? with
  | none => exact ⟨fun _ => rfl, fun _ => rfl⟩
  | some o =>
    constructor
    · intro q
      simp only [Option.map_some, if_pos q]
    · intro q
      simp only [Option.map_some, if_neg q]

section
variable {ι : Type} {c : Cx} {P : List (Addr × (Obj → Prop))} {m cm : Loc} {S Sc : Sto ι} {s : Shared}

def over {ι : Type} (Sc Sc' S : Sto ι) : Sto ι := fun l => if (Sc l).isSome then Sc' l else S l

/-- a part of the ledger is lent to a callee -/
theorem St.call (X : St c P m cm S s) (hsub : ∀ l p, Sc l = some p → S l = some p) :
    ∃ g, Sub g s.heap ∧ Sub c.g g ∧ Led g s.heap Sc ∧ (∀ l a φ, S l = some (a, φ) → Sc l = none → Has g a φ) ∧
      ∀ s' Sc', Chg g s s' → Led g s'.heap Sc' → (∀ l a φ', Sc' l = some (a, φ') → ∃ φ, Sc l = some (a, φ)) → St c P m cm (over Sc Sc' S) s' := by
  let p : Addr → Prop := fun a => ∃ l φ, Sc l = some (a, φ)
  have H := hide_get s.heap p
  have lent : ∀ {a : Addr}, p a → ∃ l φ, mkW c.L m c.cs cm P S (.lab l) = some (a, φ) ∧ ∃ ψ, Sc l = some (a, ψ) := fun ⟨l, φ, e⟩ => ⟨l, φ, hsub l _ e, φ, e⟩
  have sub : Sub (hide s.heap p) s.heap := ⟨fun a o e => by
    by_cases q : p a
    · rw [(H a).1 q] at e; cases e
    · rw [(H a).2 q] at e; exact e⟩
  refine ⟨hide s.heap p, sub, ⟨fun a o e => ?_⟩, ⟨fun l a φ e => ⟨(X.own.has (.lab l) a φ (hsub _ _ e)).2, (H a).1 ⟨l, φ, e⟩⟩, fun l l' a φ φ' e e' => X.inj (hsub _ _ e) (hsub _ _ e')⟩, fun l a φ e hn => ?_, fun s' Sc' hc hl had => ?_⟩
  · refine ((H a).2 fun q => ?_).trans (X.base e)
    obtain ⟨l, φ, e1, _⟩ := lent q
    rw [(X.own.has _ _ _ e1).1] at e; cases e
  · obtain ⟨o, ho, hφ⟩ := X.at e
    refine ⟨o, ((H a).2 fun q => ?_).trans ho, hφ⟩
    obtain ⟨l', φ', e1, ψ, e2⟩ := lent q
    have : l' = l := X.inj e1 e
    rw [this, hn] at e2; cases e2
  · have keep : ∀ {t : Tag ι} {a : Addr} {φ : Obj → Prop}, mkW c.L m c.cs cm P S t = some (a, φ) → (∀ l, t = .lab l → Sc l = none) → c.g.get? a = none ∧ ∃ o, s'.heap.get? a = some o ∧ φ o := by
      intro t a φ e hn
      obtain ⟨h1, o, ho, hφ⟩ := X.own.has t a φ e
      refine ⟨h1, o, hc.sub.get a o (((H a).2 fun q => ?_).trans ho), hφ⟩
      obtain ⟨l', φ', e1, ψ, e2⟩ := lent q
      have : Tag.lab l' = t := X.own.inj _ _ _ _ _ e1 e
      rw [hn l' this.symm] at e2; cases e2
    have shape : ∀ {t : Tag ι} {a : Addr} {φ : Obj → Prop}, mkW c.L m c.cs cm P (over Sc Sc' S) t = some (a, φ) →
        (mkW c.L m c.cs cm P S t = some (a, φ) ∧ (∀ l, t = .lab l → Sc l = none)) ∨ (∃ l, t = .lab l ∧ Sc' l = some (a, φ) ∧ ∃ ψ, Sc l = some (a, ψ)) := by
      intro t a φ e
      cases t with
      | loc => exact .inl ⟨e, fun l q => by cases q⟩
      | cel x => exact .inl ⟨e, fun l q => by cases q⟩
      | pin k => exact .inl ⟨e, fun l q => by cases q⟩
      | lab l =>
        have e' : over Sc Sc' S l = some (a, φ) := e
        unfold over at e'
        cases hq : Sc l with
        | none =>
          rw [hq] at e'
          exact .inl ⟨e', fun l' q => by cases q; exact hq⟩
        | some q =>
          rw [hq] at e'
          have e2 : Sc' l = some (a, φ) := e'
          obtain ⟨ψ, hψ⟩ := had l a φ e2
          exact .inr ⟨l, rfl, e2, ψ, hψ⟩
    refine ⟨⟨⟨fun a o e => ?_⟩, hc.gens.trans X.chg.gens, hc.drawn.trans X.chg.drawn, hc.os.trans X.chg.os⟩, ⟨fun t a φ e => ?_, fun t t' a φ φ' e e' => ?_⟩⟩
    · refine hc.sub.get a o (((H a).2 fun q => ?_).trans (X.base e))
      obtain ⟨l, φ, e1, _⟩ := lent q
      rw [(X.own.has _ _ _ e1).1] at e; cases e
    · rcases shape e with ⟨h1, h2⟩ | ⟨l, rfl, h1, ψ, h2⟩
      · exact keep h1 h2
      · exact ⟨(X.own.has (.lab l) a ψ (hsub _ _ h2)).1, (hl.has l a φ h1).1⟩
    · have old : ∀ {t : Tag ι} {a : Addr} {φ : Obj → Prop}, mkW c.L m c.cs cm P (over Sc Sc' S) t = some (a, φ) → ∃ ψ, mkW c.L m c.cs cm P S t = some (a, ψ) := by
        intro t a φ e
        rcases shape e with ⟨h1, _⟩ | ⟨l, rfl, _, ψ, h2⟩
        · exact ⟨_, h1⟩
        · exact ⟨ψ, hsub _ _ h2⟩
      obtain ⟨ψ, e1⟩ := old e
      obtain ⟨ψ', e2⟩ := old e'
      exact X.own.inj t t' a ψ ψ' e1 e2
end

-- lists, tuples, domains of ints
def IntsI (cls : Value) (d : Option Addr) (ns : List Int) (o : Obj) : Prop := ∃ vs, IntsAre vs ns ∧ IsSeq cls d vs o
abbrev LstN (ns : List Int) : Obj → Prop := IntsI (.type "list") none ns
abbrev DomN (dd : Addr) (ns : List Int) : Obj → Prop := IntsI (.ref 264) (some dd) ns
theorem Has.ints {h : Heap} {a : Addr} {cls : Value} {d : Option Addr} {ns : List Int} (x : Has h a (IntsI cls d ns)) : ∃ vs, IntsAre vs ns ∧ Has h a (IsSeq cls d vs) := let ⟨o, e, vs, i, y⟩ := x; ⟨vs, i, o, e, y⟩
theorem Has.ofInts {h : Heap} {a : Addr} {cls : Value} {d : Option Addr} {ns : List Int} {vs : List Value} (i : IntsAre vs ns) (x : Has h a (IsSeq cls d vs)) : Has h a (IntsI cls d ns) := let ⟨o, e, y⟩ := x; ⟨o, e, vs, i, y⟩
theorem ints_length : ∀ {vs : List Value} {ns : List Int}, IntsAre vs ns → vs.length = ns.length
  | _, _, .nil => rfl
  | _, _, .cons _ _ h => by simp [ints_length h]
theorem ints_get : ∀ {vs : List Value} {ns : List Int}, IntsAre vs ns → ∀ {i : Nat} {v : Value}, vs[i]? = some v → ∃ k t, ns[i]? = some k ∧ v = .int k t
  | _, _, .nil, i, v, e => by simp at e
  | _, _, .cons n t h, i, v, e => by
    cases i with
    | zero => simp at e; exact ⟨n, t, by simp, e.symm⟩
    | succ i => rw [List.getElem?_cons_succ] at e ⊢; exact ints_get h e
theorem ints_get' : ∀ {vs : List Value} {ns : List Int}, IntsAre vs ns → ∀ {i : Nat} {k : Int}, ns[i]? = some k → ∃ t, vs[i]? = some (.int k t)
  | _, _, .nil, i, v, e => by simp at e
  | _, _, .cons n t h, i, v, e => by
    cases i with
    | zero => simp at e; exact ⟨t, by simp [e]⟩
    | succ i => rw [List.getElem?_cons_succ] at e ⊢; exact ints_get' h e
theorem ints_append : ∀ {vs us : List Value} {ns ms : List Int}, IntsAre vs ns → IntsAre us ms → IntsAre (vs ++ us) (ns ++ ms)
  | _, _, _, _, .nil, h => h
  | _, _, _, _, .cons n t h, h' => .cons n t (ints_append h h')
theorem ints_snoc {vs : List Value} {ns : List Int} {k : Int} {t : Tok} (h : IntsAre vs ns) : IntsAre (vs ++ [.int k t]) (ns ++ [k]) := ints_append h (.cons k t .nil)
theorem ints_split : ∀ {vs : List Value} (ns ms : List Int), IntsAre vs (ns ++ ms) → ∃ us ws, vs = us ++ ws ∧ IntsAre us ns ∧ IntsAre ws ms
  | vs, [], ms, h => ⟨[], vs, rfl, .nil, h⟩
  | _, n :: ns, ms, .cons _ t h => let ⟨us, ws, e, a, b⟩ := ints_split ns ms h; ⟨.int n t :: us, ws, by rw [e]; rfl, .cons n t a, b⟩

section
variable {w : World} {A : Around} {s : Shared} {env : Env}

/-- a plain object -/
structure Inst (w : World) (h : Heap) (x C dx : Addr) : Prop where
  at_ : Has h x (fun o => o = instObj C dx)
theorem Inst.mono {h h' : Heap} {x C dx : Addr} (X : Inst w h x C dx) (k : Sub h h') : Inst w h' x C dx := ⟨X.at_.mono k⟩

theorem attr_plain {x dx C : Addr} {od : Obj} {name : Str} {v : Value} {expr : Bool} {Q : Value → Shared → Prop} (T : Stat w s.heap) (hx : s.heap.get? x = some (instObj C dx))
    (hdx : s.heap.get? dx = some od) (hga : findIn (Kf w) (.ref C) "__getattribute__" = some (some (.builtin "object.__getattribute__"))) (hf : findObj (Kf w) C (some od) name = some (.value v)) (hv : handedIn v = true) (h : ∀ s', Grow s s' → Q v s') :
    WA w A (getAttr (.ref x) name expr) Q s := b_attr T hx rfl rfl rfl hdx hga hf hv h

/-- an object is called -/
theorem call_inst {x C dx f : Addr} {od : Obj} {args : List Value} {Q : Value → Shared → Prop} (T : Stat w s.heap) (hx : s.heap.get? x = some (instObj C dx)) (hdx : s.heap.get? dx = some od)
    (hs : findIn (Kf w) (.ref C) "__call__" = some (some (.ref f))) (hf : isFn (Kf w) (.ref f) = true) (hfn : fnIn (Kf w) f = true)
    (h : codeAny (model Pr w) A (.call (.ref f) ⟨.ref x :: args, []⟩) (Rv Q) s) : WA w A (call (.ref x) args) Q s := by
  have I : InstAt s.heap x (instObj C dx) C (some od) := ⟨hx, rfl, rfl, hdx⟩
  exact wpAny_call (kco_code T.K I rfl hs hf hfn (codeAny_mono h fun r s' z => by rcases r with e | (_ | _ | _ | _) <;> exact z))

/-- what a class must be so that its objects' attributes are stored plainly -/
structure SA (w : World) (C : Addr) (name : Str) : Prop where
  set : findIn (Kf w) (.ref C) "__setattr__" = some (some (.builtin "object.__setattr__"))
  cls : ∃ cd, clsIn (Kf w) C = some cd ∧ cd.mro.isEmpty = false ∧ cd.mro.contains (.type "object") = true ∧ cd.hasDict = true ∧ ∀ self, refuseLoop self "__setattr__" cd.mro = pure ()
  taker : takerIn (Kf w) C name = some none

theorem sa_plain {C : Addr} {name : Str} (h1 : findIn (Kf w) (.ref C) "__setattr__" = some (some (.builtin "object.__setattr__"))) (hp : plainOver (Kf w) C = true) (hh : (clsIn (Kf w) C).any (·.hasDict) = true)
    (ht : takerIn (Kf w) C name = some none) : SA w C name := by
  obtain ⟨cd, hc, ho⟩ := any_some hp
  obtain ⟨cd', hc', ho'⟩ := any_some hh
  rw [hc] at hc'; cases hc'
  exact ⟨h1, ⟨cd, hc, by cases q : cd.mro with | nil => rw [q] at ho; cases ho | cons _ _ => rfl, only_has ho, ho', fun self => refuse_only self ho⟩, ht⟩

/-- an attribute of an object is stored in its dict -/
theorem set_attr {x dx C : Addr} {ox : Obj} {name : Str} {v : Value} {es : List DictEntry} {n : Nat} {Q : Unit → Shared → Prop} (T : Stat w s.heap) (Z : SA w C name) (hx : s.heap.get? x = some ox) (hcl : ox.cls = .ref C) (hd : ox.dict = some dx) (hno : notCls ox = true) (hdx : s.heap.get? dx = some (dictOf es n))
    (hl : (getL name es).isSome = true) (hz : (∀ t, (putL name (PyData.keyHash w.params name) (.str name t) v es).length ≤ 1000))
    (h : ∀ h' tk t, h'.get? dx = some (dictOf (putL name (PyData.keyHash w.params name) (.str name t) v es) (putN name es n)) → Heap.SameBut dx s.heap h' → Q () { s with heap := h', toks := tk }) :
    WA w A (setAttr (.ref x) name v) Q s := by
  have I : InstAt s.heap x ox C (some (dictOf es n)) := ⟨hx, hcl, hno, by rw [hd]; exact hdx⟩
  refine set_plain T.K I Z.set ?_
  have SF := PySem.F.store_object
  obtain ⟨cd, hc, ne, hob, hhd, hrf⟩ := Z.cls
  have I' : InstAt ({ s with toks := s.toks + 1 } : Shared).heap x ox C (some (dictOf es n)) := I
  have X : (Kf w).In ({ s with toks := s.toks + 1 } : Shared).heap := T.K
  have sub : Looks (model Pr w) ({ s with toks := s.toks + 1 } : Shared).heap (isInstance (.ref x) (.type "object")) true := I'.type.andThen (looks_mroIn X (by unfold mroIn; rw [hc, Option.bind_some, if_neg (by rw [ne]; decide), hob]))
  refine codeAny_call_builtin SF.slot.plain SF.entry (@check_slot (model Pr w) _ _ _ "object.__setattr__" "object" "__setattr__" (.ref x) [.str name s.toks, v] [] _ SF.kind SF.split sub (SF.args (.ref x) (.str name s.toks) v) ?_)
  obtain ⟨attr, ha, hr⟩ := Option.bind_eq_some_iff.mp Z.taker
  have hm : Looks (model Pr w) ({ s with toks := s.toks + 1 } : Shared).heap (mroOf (.ref C)) cd.mro := (looks_clsIn X hc).andThen .now
  have L3 : Looks (model Pr w) ({ s with toks := s.toks + 1 } : Shared).heap (storeTaker? attr) none := by
    cases attr with
    | none => exact .now
    | some a =>
      obtain ⟨b, hb, hbb⟩ := Option.map_eq_some_iff.mp hr
      refine (looks_takesIn X hb).andThen ?_
      cases b
      · exact .now
      · cases hbb
  rw [osa_eq, refuse_eq]
  refine wpAny_bind (wpAny_bind (I'.type.here (wpAny_bind (hm.here ?_))))
  rw [hrf]
  refine wpAny_pure (wpAny_bind (I'.type.here (wpAny_bind ((looks_findIn X ha).here (wpAny_bind (L3.here ?_))))))
  obtain ⟨oc, odi, oda, osl⟩ := ox
  dsimp only at hcl hd
  subst hcl hd
  refine wpAny_bind (wpAny_pure (wpAny_bind (wpAny_bind (wpAny_loadPart hx (wpAny_bind ((looks_clsIn X hc).here ?_))))))
  rw [hhd]
  refine wpAny_pure (a := some dx) (wpAny_bind (wpAny_pure (wpAny_bind ?_)))
  unfold nsSet
  refine wpAny_bind (wpAny_bind (wpAny_askSetting (wpAny_pure (wpAny_bind (wpAny_mkText (wpAny_bind (wpAny_loadPart hdx ?_)))))))
  have c : (!es.toArray.any (·.key.isStr name) && es.toArray.any (·.refKey)) = false := by
    unfold getL at hl
    rw [← Array.any_toList, ← Array.any_toList]
    split at hl
    · rename_i en he
      rw [List.any_eq_true.mpr ⟨en, List.mem_of_find?_eq_some he, List.find?_some he⟩]; rfl
    · split at hl
      · cases hl
      · rename_i z; rw [Bool.not_eq_true] at z
        rw [show es.toArray.toList = es from rfl, z, Bool.and_false]
  show wpAny _ _ (if aRefKeyMayBeTheName name es.toArray = true then _ else _) _ _ _
  rw [aRefKeyMayBeTheName_at, c]
  have D' := Heap.get?_update_self (h := s.heap) (a := dx) (Obj.putName name (PyData.keyHash w.params name) (.str name (s.toks + 1)) v) hdx (by rw [putName_dict]; rfl)
  refine wpAny_updatePart hdx ?_
  refine wpAny_bind (wpAny_lookBehind D' (by rw [putName_dict]; exact pastItsLine_dict (by rw [List.size_toArray, sizeLine_eq]; have := hz (s.toks + 1); omega)) ?_)
  rw [putName_dict] at D'
  exact wpAny_pure (h _ _ _ D' (Heap.SameBut.update ..))
end
end Mine
end

section
open PySem PySem.W PySem.Calls PyProof.Rows
namespace Mine

/-- a domain's objects -/
structure DA where
  d : Addr
  dd : Addr
  hi : Addr
  si : Addr
abbrev Lab := Nat × Nat
/-- the contents of the domains: values, hidden values, states -/
structure DSt where
  X : Nat → List Int
  H : Nat → List Int
  T : Nat → List Int

def domS (D : Nat → DA) (n : Nat) (Z : DSt) : Sto Lab := fun l =>
  if l.2 < n then match l.1 with
    | 0 => some ((D l.2).d, DomN (D l.2).dd (Z.X l.2))
    | 1 => some ((D l.2).hi, LstN (Z.H l.2))
    | 2 => some ((D l.2).si, LstN (Z.T l.2))
    | _ => none
  else none
/-- with other entries, at labels from 3 on -/
def cS (D : Nat → DA) (n : Nat) (Z : DSt) (E : Sto Lab) : Sto Lab := fun l => if l.1 < 3 then domS D n Z l else E l
def setX (Z : DSt) (x : Nat) (xs hs ts : List Int) : DSt := ⟨fun y => if y = x then xs else Z.X y, fun y => if y = x then hs else Z.H y, fun y => if y = x then ts else Z.T y⟩
def oneS (D : Nat → DA) (k : Nat → Bool) (x : Nat) (xs hs ts : List Int) : Sto Lab := fun l => if l.2 = x ∧ k l.1 = true then match l.1 with
    | 0 => some ((D x).d, DomN (D x).dd xs)
    | 1 => some ((D x).hi, LstN hs)
    | 2 => some ((D x).si, LstN ts)
    | _ => none
  else none
/-- the domains' fixed objects -/
structure DomB (w : World) (g : Heap) (D : Nat → DA) (n : Nat) : Prop where
  dd : ∀ x, x < n → Has g (D x).dd (DomDI w (D x).hi (D x).si)
theorem DomB.mono {w : World} {g h : Heap} {D : Nat → DA} {n : Nat} (B : DomB w g D n) (k : Sub g h) : DomB w h D n := ⟨fun x hx => (B.dd x hx).mono k⟩

section
variable {w : World} {A : Around} {s : Shared} {env : Env} {D : Nat → DA} {n : Nat} {Z : DSt} {E : Sto Lab}

theorem one_sub {k : Nat → Bool} {x : Nat} (hx : x < n) : ∀ l p, oneS D k x (Z.X x) (Z.H x) (Z.T x) l = some p → cS D n Z E l = some p := by
  rintro ⟨j, y⟩ p e
  unfold oneS at e
  by_cases hy : y = x ∧ k j = true
  · obtain ⟨rfl, hk⟩ := hy
    rw [if_pos ⟨rfl, hk⟩] at e
    unfold cS domS
    match j, e with
    | 0, e => simpa [hx] using e
    | 1, e => simpa [hx] using e
    | 2, e => simpa [hx] using e
  · rw [if_neg hy] at e; cases e
theorem over_one {k : Nat → Bool} {x : Nat} {xs hs ts : List Int} (hx : x < n) (k0 : k 0 = false → xs = Z.X x) (k1 : k 1 = false → hs = Z.H x) (k2 : k 2 = false → ts = Z.T x) :
    ∀ l p, cS D n (setX Z x xs hs ts) E l = some p → over (oneS D k x (Z.X x) (Z.H x) (Z.T x)) (oneS D k x xs hs ts) (cS D n Z E) l = some p := by
  rintro ⟨j, y⟩ p e
  unfold over
  by_cases hy : y = x
  · subst hy
    unfold cS domS setX at e
    unfold oneS cS domS
    match j, e with
    | 0, e =>
      cases hk : k 0 with
      | true => simpa [hx, hk] using e
      | false => simpa [hx, hk, k0 hk] using e
    | 1, e =>
      cases hk : k 1 with
      | true => simpa [hx, hk] using e
      | false => simpa [hx, hk, k1 hk] using e
    | 2, e =>
      cases hk : k 2 with
      | true => simpa [hx, hk] using e
      | false => simpa [hx, hk, k2 hk] using e
    | j + 3, e =>
      simp only [show ¬ (j + 3 < 3) from by omega, if_false] at e ⊢
      simpa using e
  · have : (oneS D k x (Z.X x) (Z.H x) (Z.T x) (j, y)) = none := by unfold oneS; rw [if_neg (fun z => hy z.1)]
    rw [this]
    unfold cS domS setX at e
    unfold cS domS
    simpa [hy] using e
theorem one_dom {k : Nat → Bool} {x : Nat} {xs hs ts xs' hs' ts' : List Int} : ∀ l a φ', oneS D k x xs' hs' ts' l = some (a, φ') → ∃ φ, oneS D k x xs hs ts l = some (a, φ) := by
  rintro ⟨j, y⟩ a φ' e
  unfold oneS at e ⊢
  by_cases hy : y = x ∧ k j = true
  · rw [if_pos hy] at e ⊢
    match j, e with
    | 0, e => cases e; exact ⟨_, rfl⟩
    | 1, e => cases e; exact ⟨_, rfl⟩
    | 2, e => cases e; exact ⟨_, rfl⟩
  · rw [if_neg hy] at e; cases e

theorem one_led {k : Nat → Bool} {g h h' : Heap} {x : Nat} {xs hs ts xs' hs' ts' : List Int} (L : Led g h (oneS D k x xs hs ts)) (h0 : k 0 = true → Has h' (D x).d (DomN (D x).dd xs')) (h1 : k 1 = true → Has h' (D x).hi (LstN hs'))
    (h2 : k 2 = true → Has h' (D x).si (LstN ts')) : Led g h' (oneS D k x xs' hs' ts') := by
  constructor
  · rintro ⟨j, y⟩ a φ e
    obtain ⟨φ₀, e₀⟩ := one_dom (xs := xs) (hs := hs) (ts := ts) _ _ _ e
    refine ⟨?_, (L.has _ _ _ e₀).2⟩
    unfold oneS at e
    by_cases hy : y = x ∧ k j = true
    · rw [if_pos hy] at e
      match j, hy, e with
      | 0, hy, e => cases e; exact h0 hy.2
      | 1, hy, e => cases e; exact h1 hy.2
      | 2, hy, e => cases e; exact h2 hy.2
    · rw [if_neg hy] at e; cases e
  · intro l l' a φ φ' e e'
    obtain ⟨φ₀, e₀⟩ := one_dom (xs := xs) (hs := hs) (ts := ts) _ _ _ e
    obtain ⟨φ₁, e₁⟩ := one_dom (xs := xs) (hs := hs) (ts := ts) _ _ _ e'
    exact L.inj _ _ _ _ _ e₀ e₁
theorem St.sto {ι : Type} {c : Cx} {P : List (Addr × (Obj → Prop))} {m cm : Loc} {S S' : Sto ι} {s : Shared} (X : St c P m cm S s) (h : ∀ l p, S' l = some p → S l = some p) : St c P m cm S' s :=
  X.weaken (fun _ _ e => e) (fun _ _ e => e) fun l a φ' e => ⟨φ', h l _ e, fun _ q => q⟩
theorem St.loc {ι : Type} {c : Cx} {P : List (Addr × (Obj → Prop))} {m m' cm : Loc} {S : Sto ι} {s : Shared} (X : St c P m cm S s) (h : ∀ p ∈ m', m.lookup p.1 = some p.2) : St c P m' cm S s :=
  X.weaken (lookup_of_all h) (fun _ _ e => e) fun l a φ' e => ⟨φ', e, fun _ q => q⟩

section
variable {c : Cx} {P : List (Addr × (Obj → Prop))} {m cm : Loc}
theorem cs_d {x : Nat} (hx : x < n) : cS D n Z E (0, x) = some ((D x).d, DomN (D x).dd (Z.X x)) := by simp [cS, domS, hx]
theorem cs_h {x : Nat} (hx : x < n) : cS D n Z E (1, x) = some ((D x).hi, LstN (Z.H x)) := by simp [cS, domS, hx]
theorem cs_s {x : Nat} (hx : x < n) : cS D n Z E (2, x) = some ((D x).si, LstN (Z.T x)) := by simp [cS, domS, hx]

/-- a domain is lent: its method turns this domain alone -/
theorem dom_lend (k : Nat → Bool) {x : Nat} (X : St c P m cm (cS D n Z E) s) (hx : x < n) (B : DomB w c.g D n) (T : Stat w c.g) :
    ∃ g, Sub g s.heap ∧ Stat w g ∧ Led g s.heap (oneS D k x (Z.X x) (Z.H x) (Z.T x)) ∧ Has g (D x).dd (DomDI w (D x).hi (D x).si) ∧ (k 0 = false → Has g (D x).d (DomN (D x).dd (Z.X x))) ∧
      ∀ s' xs hs ts, Chg g s s' → (if k 0 then Has s'.heap (D x).d (DomN (D x).dd xs) else xs = Z.X x) → (if k 1 then Has s'.heap (D x).hi (LstN hs) else hs = Z.H x) → (if k 2 then Has s'.heap (D x).si (LstN ts) else ts = Z.T x) →
        St c P m cm (cS D n (setX Z x xs hs ts) E) s' := by
  obtain ⟨g, g1, g2, L, oth, back⟩ := X.call (Sc := oneS D k x (Z.X x) (Z.H x) (Z.T x)) (one_sub hx)
  refine ⟨g, g1, T.mono g2.get, L, (B.dd x hx).mono g2, fun h0 => oth (0, x) _ _ (cs_d hx) (by simp [oneS, h0]), fun s' xs hs ts a b d e => ?_⟩
  refine (back s' _ a (one_led L (fun q => by rw [q] at b; exact b) (fun q => by rw [q] at d; exact d) fun q => by rw [q] at e; exact e) one_dom).sto (over_one hx (fun q => by rw [q] at b; exact b) (fun q => by rw [q] at d; exact d) fun q => by rw [q] at e; exact e)

theorem dom_apart {x : Nat} (X : St c P m cm (cS D n Z E) s) (hx : x < n) : (D x).d ≠ (D x).hi ∧ (D x).d ≠ (D x).si ∧ (D x).hi ≠ (D x).si := by
  refine ⟨fun e => ?_, fun e => ?_, fun e => ?_⟩
  · have := X.inj (cs_d hx) (l' := (1, x)) (by rw [cs_h hx, e]); cases this
  · have := X.inj (cs_d hx) (l' := (2, x)) (by rw [cs_s hx, e]); cases this
  · have := X.inj (cs_h hx) (l' := (2, x)) (by rw [cs_s hx, e]); cases this
theorem one_0 {k : Nat → Bool} {g h : Heap} {x : Nat} {xs hs ts : List Int} (L : Led g h (oneS D k x xs hs ts)) (hk : k 0 = true) : Has h (D x).d (DomN (D x).dd xs) ∧ g.get? (D x).d = none := L.has (0, x) _ _ (by simp [oneS, hk])
theorem one_1 {k : Nat → Bool} {g h : Heap} {x : Nat} {xs hs ts : List Int} (L : Led g h (oneS D k x xs hs ts)) (hk : k 1 = true) : Has h (D x).hi (LstN hs) ∧ g.get? (D x).hi = none := L.has (1, x) _ _ (by simp [oneS, hk])
theorem one_2 {k : Nat → Bool} {g h : Heap} {x : Nat} {xs hs ts : List Int} (L : Led g h (oneS D k x xs hs ts)) (hk : k 2 = true) : Has h (D x).si (LstN ts) ∧ g.get? (D x).si = none := L.has (2, x) _ _ (by simp [oneS, hk])

theorem ints_ne : ∀ {vs : List Value} {ns : List Int} {i : Int}, IntsAre vs ns → i ∉ ns → ∀ v ∈ vs, ∃ i' t', v = .int i' t' ∧ i' ≠ i
  | _, _, i, .nil, _, v, hv => by cases hv
  | _, _, i, .cons k t h, hn, v, hv => by
    simp only [List.mem_cons, not_or] at hn hv
    rcases hv with rfl | hv
    · exact ⟨k, t, rfl, fun e => hn.1 e.symm⟩
    · exact ints_ne h hn.2 v hv

theorem hide_in {x : Nat} {pre post : List Int} {v : Int} {t : Tok} {Q : Value → Shared → Prop} (hA : Ok A 3) (X : St c P m cm (cS D n Z E) s) (hx : x < n) (B : DomB w c.g D n) (T : Stat w c.g)
    (hX : Z.X x = pre ++ v :: post) (hv : v ∉ pre) (z1 : (Z.X x).length ≤ 100) (z2 : (Z.H x).length ≤ 100)
    (h : ∀ s', St c P m cm (cS D n (setX Z x (pre ++ post) (Z.H x ++ [v]) (Z.T x)) E) s' → Q .none s') : WA w A (call (.ref 261) [.ref (D x).d, .int v t]) Q s := by
  obtain ⟨g, g1, T', L, hdd, _, back⟩ := dom_lend (fun i => decide (i < 2)) X hx B T
  obtain ⟨vs, iv, hd⟩ := (one_0 L rfl).1.ints
  rw [hX] at iv z1
  obtain ⟨us, ws, rfl, iu, iw⟩ := ints_split _ _ iv
  cases iw with
  | cons _ tk iw =>
  obtain ⟨hs, ih, hh⟩ := (one_1 L rfl).1.ints
  refine hideValue_spec hA g1 T' hd (one_0 L rfl).2 hdd hh (one_1 L rfl).2 (ints_ne iu hv) (dom_apart X hx).1 (by have := ints_length iv; omega) (by have := ints_length ih; omega) fun s' c1 a b => h s' ?_
  exact back s' _ _ _ c1 (a.ofInts (ints_append iu iw)) (b.ofInts (ints_snoc ih)) rfl

theorem push_in {x : Nat} {Q : Value → Shared → Prop} (hA : Ok A 3) (X : St c P m cm (cS D n Z E) s) (hx : x < n) (B : DomB w c.g D n) (T : Stat w c.g) (z1 : (Z.X x).length ≤ 100) (z2 : (Z.T x).length ≤ 100)
    (h : ∀ s', St c P m cm (cS D n (setX Z x (Z.X x) (Z.H x) (Z.T x ++ [((Z.X x).length : Int)])) E) s' → Q .none s') : WA w A (call (.ref 247) [.ref (D x).d]) Q s := by
  obtain ⟨g, g1, T', L, hdd, hd, back⟩ := dom_lend (fun i => decide (i = 2)) X hx B T
  obtain ⟨vs, iv, hd⟩ := (hd rfl).ints
  obtain ⟨ts, it, ht⟩ := (one_2 L rfl).1.ints
  have e1 := ints_length iv
  have e2 := ints_length it
  refine pushState_spec hA g1 T' hd hdd ht (one_2 L rfl).2 (by omega) (by omega) fun s' t c1 a => h s' ?_
  rw [e1] at a
  exact back s' _ _ _ c1 rfl rfl (a.ofInts (ints_snoc it))

theorem pop_in {x : Nat} {hs back' ts : List Int} {k : Nat} {Q : Value → Shared → Prop} (hA : Ok A 3) (X : St c P m cm (cS D n Z E) s) (hx : x < n) (B : DomB w c.g D n) (T : Stat w c.g) (z1 : (Z.X x).length ≤ 100) (z2 : (Z.T x).length ≤ 100) (z3 : (Z.H x).length ≤ 100)
    (hT : Z.T x = ts ++ [(k : Int)]) (hH : Z.H x = hs ++ back') (hk : k = (Z.X x).length + back'.length)
    (h : ∀ s', St c P m cm (cS D n (setX Z x (Z.X x ++ back') hs ts) E) s' → Q .none s') : WA w A (call (.ref 254) [.ref (D x).d]) Q s := by
  obtain ⟨g, g1, T', L, hdd, _, back⟩ := dom_lend (fun _ => true) X hx B T
  obtain ⟨vs, iv, hd⟩ := (one_0 L rfl).1.ints
  obtain ⟨us, iu, hh⟩ := (one_1 L rfl).1.ints
  obtain ⟨ws, iw, hw⟩ := (one_2 L rfl).1.ints
  have e1 := ints_length iv
  have e2 := ints_length iw
  have e3 := ints_length iu
  rw [hT] at iw
  rw [hH] at iu
  obtain ⟨u1, u2, rfl, iu1, iu2⟩ := ints_split _ _ iu
  obtain ⟨w1, w2, rfl, iw1, iw2⟩ := ints_split _ _ iw
  cases iw2 with
  | cons _ tk iw2 =>
  cases iw2
  have e4 := ints_length iu2
  rw [List.length_append, List.length_singleton] at e2
  refine popState_spec (m := k) hA g1 T' hd (one_0 L rfl).2 hdd hh (one_1 L rfl).2 hw (one_2 L rfl).2 (by omega) (dom_apart X hx).1 (dom_apart X hx).2.1 (dom_apart X hx).2.2 (by omega) (by omega) (by omega) fun s' c1 a b d => h s' ?_
  exact back s' _ _ _ c1 (a.ofInts (ints_append iv iu2)) (b.ofInts iu1) (d.ofInts iw1)
end
end
end Mine
end

section
open PySem PySem.W PySem.Calls PyProof.Rows
namespace Mine

inductive KvI : List (Int × Value) → List (Int × Int) → Prop
  | nil : KvI [] []
  | cons {kvs a} (k v : Int) (t : Tok) : KvI kvs a → KvI ((k, .int v t) :: kvs) ((k, v) :: a)
theorem kv_at : ∀ {kvs a}, KvI kvs a → ∀ k : Int, (valueAt kvs k = none ∧ a.lookup k = none) ∨ ∃ v t, valueAt kvs k = some (.int v t) ∧ a.lookup k = some v
  | _, _, .nil, k => .inl ⟨rfl, rfl⟩
  | _, _, .cons (kvs := kvs) (a := a) k' v t h, k => by
    by_cases e : k = k'
    · subst e
      exact .inr ⟨v, t, by simp [valueAt], by simp⟩
    · rcases kv_at h k with ⟨h1, h2⟩ | ⟨v', t', h1, h2⟩
      · refine .inl ⟨?_, ?_⟩
        · unfold valueAt at h1 ⊢; rw [List.find?_cons]; simp only [show decide (k' = k) = false from by simp [Ne.symm e]]; exact h1
        · rw [List.lookup_cons]; simp only [show (k == k') = false from by simp [e]]; exact h2
      · refine .inr ⟨v', t', ?_, ?_⟩
        · unfold valueAt at h1 ⊢; rw [List.find?_cons]; simp only [show decide (k' = k) = false from by simp [Ne.symm e]]; exact h1
        · rw [List.lookup_cons]; simp only [show (k == k') = false from by simp [e]]; exact h2
def DicN (w : World) (a : List (Int × Int)) (o : Obj) : Prop := ∃ kvs, KvI kvs a ∧ DicK w kvs o
theorem Has.kv {w : World} {h : Heap} {d : Addr} {a : List (Int × Int)} (x : Has h d (DicN w a)) : ∃ kvs, KvI kvs a ∧ Has h d (DicK w kvs) := let ⟨o, e, kvs, i, y⟩ := x; ⟨kvs, i, o, e, y⟩
theorem Has.ofKv {w : World} {h : Heap} {d : Addr} {a : List (Int × Int)} {kvs : List (Int × Value)} (i : KvI kvs a) (x : Has h d (DicK w kvs)) : Has h d (DicN w a) := let ⟨o, e, y⟩ := x; ⟨o, e, kvs, i, y⟩

def domKv (D : Nat → DA) (n : Nat) : List (Int × Value) := (List.range n).map fun (i : Nat) => ((i : Int), Value.ref (D i).d)
theorem domKv_at (D : Nat → DA) {n x : Nat} (hx : x < n) : valueAt (domKv D n) (x : Int) = some (.ref (D x).d) := by
  unfold valueAt domKv
  have : ((List.range n).map fun (i : Nat) => ((i : Int), Value.ref (D i).d)).find? (fun kv => decide (kv.1 = (x : Int))) = some ((x : Int), .ref (D x).d) := by
    rw [List.find?_map]
    have : (List.range n).find? ((fun kv => decide (kv.1 = (x : Int))) ∘ fun (i : Nat) => ((i : Int), Value.ref (D i).d)) = some x := by
      rw [List.find?_eq_some_iff_append]
      refine ⟨by simp, List.range x, (List.range' (x + 1) (n - x - 1)), ?_, ?_⟩
      · rw [List.range_eq_range', List.range_eq_range']
        rw [show x :: List.range' (x + 1) (n - x - 1) = List.range' x (n - x) from by
          rw [show n - x = (n - x - 1) + 1 from by omega, List.range'_succ]; simp]
        have := List.range'_append (s := 0) (m := x) (n := n - x) (step := 1)
        simp only [Nat.one_mul, Nat.zero_add] at this
        rw [this]
        congr 1
        omega
      · intro y hy
        simp at hy ⊢
        omega
    rw [this]
    rfl
  rw [this]
  rfl

section
variable {w : World} {A : Around} {s : Shared} {env : Env}
theorem n_in {d : Addr} {a : List (Int × Int)} {k : Int} {t : Tok} {Q : Value → Shared → Prop} (hd : (d == sysModules) = false) (hm : Has s.heap d (DicN w a)) (h : ∀ s', Grow s s' → Q (.bool (a.lookup k).isSome) s') :
    WA w A (compareOp .In (.int k t) (.ref d)) Q s := by
  obtain ⟨kvs, i, hm⟩ := hm.kv
  refine d_in hd hm fun s' g => ?_
  have e : (valueAt kvs k).isSome = (a.lookup k).isSome := by rcases kv_at i k with ⟨h1, h2⟩ | ⟨v, t, h1, h2⟩ <;> rw [h1, h2] <;> rfl
  rw [e]; exact h s' g
theorem n_notin {d : Addr} {a : List (Int × Int)} {k : Int} {t : Tok} {Q : Value → Shared → Prop} (hd : (d == sysModules) = false) (hm : Has s.heap d (DicN w a)) (h : ∀ s', Grow s s' → Q (.bool (!(a.lookup k).isSome)) s') :
    WA w A (compareOp .NotIn (.int k t) (.ref d)) Q s := by
  obtain ⟨kvs, i, hm⟩ := hm.kv
  refine d_notin hd hm fun s' g => ?_
  have e : (valueAt kvs k).isSome = (a.lookup k).isSome := by rcases kv_at i k with ⟨h1, h2⟩ | ⟨v, t, h1, h2⟩ <;> rw [h1, h2] <;> rfl
  rw [e]; exact h s' g
theorem n_get {d : Addr} {a : List (Int × Int)} {k v : Int} {t : Tok} {Q : Value → Shared → Prop} (hm : Has s.heap d (DicN w a)) (hv : a.lookup k = some v) (h : ∀ t' s', Grow s s' → Q (.int v t') s') :
    WA w A (getItem (.ref d) (.int k t)) Q s := by
  obtain ⟨kvs, i, hm⟩ := hm.kv
  rcases kv_at i k with ⟨h1, h2⟩ | ⟨v', t', h1, h2⟩
  · rw [h2] at hv; cases hv
  · rw [h2] at hv; cases hv
    exact d_get hm h1 fun s' g => h t' s' g
theorem inPyDicN {l : Addr} {a : List (Int × Int)} {h : Heap} (hl : Has h l (DicN w a)) : Looks (model Pr w) h (getitemInPython (.ref l)) false := by
  obtain ⟨kvs, i, hm⟩ := hl.kv
  exact inPyDict hm

theorem fn_dom {name : Str} {f : Addr} (h : findIn (Kf w) (.ref 264) name = some (some (.ref f))) (ht : typeIn (Kf w) (.ref f) = some (.type "function")) {x dx hi si : Addr} {o : Obj} {d : Option Addr} {xs : List Value} {pl : Sem Bool} {Q : Value × List Value → Shared → Prop} (T : Stat w s.heap)
    (hx : Has s.heap x (DomI dx xs)) (hdx : Has s.heap dx (DomDI w hi si)) (hn : ∀ q, lookIn name (domD w q hi si) = some none) (k : Q (.ref f, [.ref x]) s) : WA w A (getMethod (.ref x) name pl) Q s := by
  obtain ⟨n, hx⟩ := hx.out
  obtain ⟨_, hdx, q, rfl⟩ := hdx
  exact r_getMethod T hx ga_dom can_list gh_dom h ht (.inl rfl) (.inr ⟨dx, _, rfl, hdx, hn q⟩) k

/-- the copy of a whole list or domain -/
theorem r_copy {value : Expr} {p pos : Pos} {Q : Value → Shared → Prop}
    (h : WA w A (eval value env) (fun o s₁ => ∃ a cls d ns, o = .ref a ∧ Stat w s₁.heap ∧ Has s₁.heap a (IntsI cls d ns) ∧ SK w cls ∧ BM w cls "__getitem__" "list.__getitem__" Builtin.«list.__getitem__» ∧ ns.length ≤ 900 ∧
      ∀ l s', Grow s₁ s' → Has s'.heap l (LstN ns) → s₁.heap.get? l = none → Q (.ref l) s') s) :
    WA w A (eval (.Subscript value (.Slice none none none p) pos) env) Q s := by
  refine r_slice (WA.mono h fun o s₁ h₁ => wpAny_pure (wpAny_pure ?_))
  obtain ⟨a, cls, d, ns, rfl, T, ha, K, M, hz, hQ⟩ := h₁
  obtain ⟨vs, iv, ha⟩ := ha.ints
  have e := ints_length iv
  refine ⟨a, cls, d, vs, none, none, rfl, T, ha, K, M, .none, .none, by omega, fun l s' g hl hf => hQ l s' g ?_ hf⟩
  rw [slicePick_all] at hl
  exact hl.ofInts iv
end

-- the effect of forward checking on the domains
structure Eff (n : Nat) (bad : Nat → Int → Prop) (Z Z' : DSt) : Prop where
  T : Z'.T = Z.T
  dom : ∀ x, x < n → ∃ B, Z'.H x = Z.H x ++ B ∧ (Z'.X x ++ B).Perm (Z.X x) ∧ ∀ v ∈ B, bad x v
theorem Eff.refl {n : Nat} {bad : Nat → Int → Prop} {Z : DSt} : Eff n bad Z Z := ⟨rfl, fun x _ => ⟨[], by simp, by simp, by simp⟩⟩
theorem Eff.hide {n : Nat} {bad : Nat → Int → Prop} {Z Z' : DSt} (E : Eff n bad Z Z') {x : Nat} {pre post : List Int} {v : Int} (e : Z'.X x = pre ++ v :: post) (hb : bad x v) :
    Eff n bad Z (setX Z' x (pre ++ post) (Z'.H x ++ [v]) (Z'.T x)) := by
  constructor
  · rw [← E.T]
    funext y
    show (if y = x then Z'.T x else Z'.T y) = Z'.T y
    split
    · rename_i q; rw [q]
    · rfl
  · intro y hy
    obtain ⟨B, h1, h2, h3⟩ := E.dom y hy
    by_cases q : y = x
    · subst q
      refine ⟨B ++ [v], ?_, ?_, ?_⟩
      · simp [setX, h1]
      · simp only [setX, if_true]
        refine List.Perm.trans ?_ h2
        rw [e]
        have : (pre ++ v :: post ++ B).Perm (v :: (pre ++ post ++ B)) := by
          rw [List.append_assoc, List.cons_append]
          exact (List.perm_middle).trans (by rw [List.append_assoc])
        refine List.Perm.trans ?_ this.symm
        rw [← List.append_assoc]
        exact List.perm_append_singleton v _
      · intro u hu
        rcases List.mem_append.mp hu with hu | hu
        · exact h3 u hu
        · rw [List.mem_singleton.mp hu]; exact hb
    · refine ⟨B, ?_, ?_, h3⟩
      · simp [setX, q, h1]
      · simp [setX, q]; exact h2

structure ZOk (n : Nat) (Z : DSt) : Prop where
  nodup : ∀ x, x < n → (Z.X x).Nodup
  size : ∀ x, x < n → (Z.X x).length + (Z.H x).length ≤ 50
theorem ZOk.eff {n : Nat} {bad : Nat → Int → Prop} {Z Z' : DSt} (k : ZOk n Z) (E : Eff n bad Z Z') : ZOk n Z' := by
  constructor
  · intro x hx
    obtain ⟨B, h1, h2, h3⟩ := E.dom x hx
    exact (List.nodup_append.mp ((h2.nodup_iff).mpr (k.nodup x hx))).1
  · intro x hx
    obtain ⟨B, h1, h2, h3⟩ := E.dom x hx
    have := k.size x hx
    have e := h2.length_eq
    rw [List.length_append] at e
    rw [h1, List.length_append]
    omega

abbrev noS2 : Sto Lab := fun _ => none
section
variable {w : World} {D : Nat → DA} {n : Nat} {Z : DSt} {E : Sto Lab} {c : Cx} {P : List (Addr × (Obj → Prop))} {m cm : Loc} {s s' : Shared}
theorem St.newE (X : St c P m cm (cS D n Z E) s) (G : Grow s s') (l : Lab) {a : Addr} {φ : Obj → Prop} (hh : Has s'.heap a φ) (hf : s.heap.get? a = none) (hl : 3 ≤ l.1 := by decide) : St c P m cm (cS D n Z (updS E l (a, φ))) s' := by
  refine (X.new G (l := l) hh hf).sto ?_
  rintro ⟨j, y⟩ p e
  unfold cS updS at e
  unfold cS updS
  by_cases q : (j, y) = l
  · subst q
    rw [if_neg (by omega)] at e
    rw [if_pos rfl] at e ⊢
    exact e
  · rw [if_neg q]
    rw [if_neg q] at e
    exact e
theorem St.dropE (X : St c P m cm (cS D n Z E) s) {E' : Sto Lab} (h : ∀ l p, E' l = some p → E l = some p) : St c P m cm (cS D n Z E') s := by
  refine X.sto fun l p e => ?_
  unfold cS at e ⊢
  split at e
  · rename_i q; rw [if_pos q]; exact e
  · rename_i q; rw [if_neg q]; exact h l p e
end
end Mine
end

section
open PySem PySem.W PySem.Calls PyProof.Rows
namespace Mine

inductive AllIn (m : Loc) : Loc → Prop
  | nil : AllIn m []
  | cons {p r} : m.lookup p.1 = some p.2 → AllIn m r → AllIn m (p :: r)
theorem allIn {m : Loc} : ∀ {m' : Loc}, AllIn m m' → ∀ p ∈ m', m.lookup p.1 = some p.2
  | _, .cons h r, p, hp => by
    rcases List.mem_cons.mp hp with rfl | hp
    · exact h
    · exact allIn r p hp
abbrev lo (l : Loc) : Loc := l
theorem St.fit {ι : Type} {c : Cx} {P : List (Addr × (Obj → Prop))} {m m' cm : Loc} {S : Sto ι} {s : Shared} (X : St c P m cm S s) (h : AllIn m m' := by repeat (first | exact AllIn.nil | refine AllIn.cons rfl ?_)) : St c P m' cm S s := X.loc (allIn h)

def asgSum (a : List (Int × Int)) : List Nat → Int
  | [] => 0
  | x :: r => (a.lookup (x : Int)).getD 0 + asgSum a r
theorem asgSum_snoc (a : List (Int × Int)) (x : Nat) : ∀ l : List Nat, asgSum a (l ++ [x]) = asgSum a l + (a.lookup (x : Int)).getD 0
  | [] => by simp [asgSum]
  | y :: r => by simp [asgSum, asgSum_snoc a x r]; omega
theorem take_snoc {α : Type} {l : List α} {i : Nat} {x : α} (h : l[i]? = some x) : l.take (i + 1) = l.take i ++ [x] := by rw [List.take_add_one, h]; rfl

abbrev natsV (vars : List Nat) : List Int := vars.map (fun (x : Nat) => (x : Int))
theorem vars_get {vs : List Value} {vars : List Nat} (iv : IntsAre vs (natsV vars)) {i : Nat} {v : Value} (e : vs[i]? = some v) : ∃ (x : Nat) (t : Tok), vars[i]? = some x ∧ v = .int (x : Int) t := by
  obtain ⟨k, t, h1, rfl⟩ := ints_get iv e
  rw [List.getElem?_map] at h1
  obtain ⟨x, h2, rfl⟩ := Option.map_eq_some_iff.mp h1
  exact ⟨x, t, h2, rfl⟩

def MsD (w : World) (ms : Int) (o : Obj) : Prop := ∃ (q : Nat × Nat × Nat) (t : Tok), o = dictOf [attrE w "_maxsum" q.1 (.int ms t), attrE w "_multipliers" q.2.1 .none] q.2.2
theorem fo_maxsum {w : World} (q : Nat × Nat × Nat) (v : Value) : findObj (Kf w) 371 (some (dictOf [attrE w "_maxsum" q.1 v, attrE w "_multipliers" q.2.1 .none] q.2.2)) "_maxsum" = some (.value v) := by kernel_rfl
theorem fo_mult {w : World} (q : Nat × Nat × Nat) (v : Value) : findObj (Kf w) 371 (some (dictOf [attrE w "_maxsum" q.1 v, attrE w "_multipliers" q.2.1 .none] q.2.2)) "_multipliers" = some (.value .none) := by kernel_rfl
theorem ga_ms {w : World} : findIn (Kf w) (.ref 371) "__getattribute__" = some (some (.builtin "object.__getattribute__")) := by kernel_rfl
theorem nb_type {w : World} : nsIn (Kf w) mainGlobals "type" = some none := by kernel_rfl
theorem bt_type : bootBuiltins "type" = some (.type "type") := by kernel_rfl
theorem nb_float {w : World} : nsIn (Kf w) mainGlobals "float" = some none := by kernel_rfl
theorem bt_float : bootBuiltins "float" = some (.type "float") := by kernel_rfl
theorem nobool_dom {w : World} : findIn (Kf w) (.ref 264) "__bool__" = some none := by kernel_rfl
theorem nobool_list {w : World} : findIn (Kf w) (.type "list") "__bool__" = some none := by kernel_rfl
theorem fi_hide {w : World} : findIn (Kf w) (.ref 264) "hideValue" = some (some (.ref 261)) := by kernel_rfl
theorem ty_hide {w : World} : typeIn (Kf w) (.ref 261) = some (.type "function") := by kernel_rfl
theorem kp_hide {w : World} : keepIn (Kf w) (.ref 261) = true := by kernel_rfl

/-- the forwardcheck argument: False, or a list -/
def FcArg (g : Heap) (v : Value) (b : Bool) : Prop := (v = .bool false ∧ b = false) ∨ ∃ l us, v = .ref l ∧ Has g l (LstI us) ∧ us.length ≤ 100 ∧ b = !us.isEmpty
theorem FcArg.mono {g h : Heap} {v : Value} {b : Bool} (x : FcArg g v b) (k : Sub g h) : FcArg h v b := by
  rcases x with h | ⟨l, us, a, b, c⟩
  · exact .inl h
  · exact .inr ⟨l, us, a, b.mono k, c⟩
theorem tr_fc {w : World} {A : Around} {s : Shared} {v : Value} {b : Bool} {Q : Bool → Shared → Prop} (T : Stat w s.heap) (x : FcArg s.heap v b) (h : ∀ s', Grow s s' → Q b s') : WA w A (truthy v) Q s := by
  rcases x with ⟨rfl, rfl⟩ | ⟨l, us, rfl, hl, hz, rfl⟩
  · exact tr_bool (h s (Grow.refl s))
  · exact b_truth T bmL__len__ nobool_list hl (by omega) h

theorem fnN_dom {w : World} {A : Around} {s : Shared} {name : Str} {f : Addr} (h : findIn (Kf w) (.ref 264) name = some (some (.ref f))) (ht : typeIn (Kf w) (.ref f) = some (.type "function")) {x dx hi si : Addr} {xs : List Int} {pl : Sem Bool} {Q : Value × List Value → Shared → Prop} (T : Stat w s.heap)
    (hx : Has s.heap x (DomN dx xs)) (hdx : Has s.heap dx (DomDI w hi si)) (hn : ∀ q, lookIn name (domD w q hi si) = some none) (k : Q (.ref f, [.ref x]) s) : WA w A (getMethod (.ref x) name pl) Q s := by
  obtain ⟨vs, iv, hx⟩ := hx.ints
  exact fn_dom h ht (o := dictOf [] 0) (d := none) T hx hdx hn k
theorem truthN {w : World} {A : Around} {s : Shared} {cls : Value} {d : Option Addr} {a : Addr} {xs : List Int} {Q : Bool → Shared → Prop} (T : Stat w s.heap) (M : BM w cls "__len__" "list.__len__" Builtin.«list.__len__»)
    (hb : findIn (Kf w) cls "__bool__" = some none) (ho : Has s.heap a (IntsI cls d xs)) (hz : xs.length ≤ 1000) (h : ∀ s', Grow s s' → Q (!xs.isEmpty) s') : WA w A (truthy (.ref a)) Q s := by
  obtain ⟨vs, iv, ho⟩ := ho.ints
  have e := ints_length iv
  refine b_truth T M hb ho (by omega) fun s' g => ?_
  have : vs.isEmpty = xs.isEmpty := by cases vs <;> cases xs <;> first | rfl | (simp at e)
  rw [this]; exact h s' g
theorem not_mem_pre {pre post : List Int} {k : Int} (h : (pre ++ k :: post).Nodup) : k ∉ pre := fun hk => (List.nodup_append.mp h).2.2 k hk k (List.mem_cons_self ..) rfl
/-- what stands in the domain, j values of it being looked at -/
def seen (ok : Int → Bool) (xs : List Int) (j : Nat) : List Int := (xs.take j).filter ok ++ xs.drop j
theorem seen_0 {ok : Int → Bool} {xs : List Int} : seen ok xs 0 = xs := by simp [seen]
theorem seen_at {ok : Int → Bool} {xs : List Int} {j : Nat} {k : Int} (h : xs[j]? = some k) : seen ok xs j = (xs.take j).filter ok ++ k :: xs.drop (j + 1) := by
  have hl := (List.getElem?_eq_some_iff.mp h).1
  unfold seen
  rw [List.drop_eq_getElem_cons hl, (List.getElem?_eq_some_iff.mp h).2]
theorem seen_next {ok : Int → Bool} {xs : List Int} {j : Nat} {k : Int} (h : xs[j]? = some k) : seen ok xs (j + 1) = (xs.take j).filter ok ++ (if ok k = true then k :: xs.drop (j + 1) else xs.drop (j + 1)) := by
  unfold seen
  rw [take_snoc h, List.filter_append]
  cases hk : ok k <;> simp [hk]

section
variable {w : World} {A : Around} {s : Shared} {g : Heap} {D : Nat → DA} {n : Nat} {Z : DSt}

/-- what a constraint's call finds -/
structure CallIn (w : World) (g : Heap) (D : Nat → DA) (n : Nat) (V dm as : Addr) (vars : List Nat) (a : List (Int × Int)) (fcv : Value) (fb : Bool) : Prop where
  B : DomB w g D n
  vs : Has g V (LstN (natsV vars))
  lt : ∀ x ∈ vars, x < n
  len : vars.length ≤ 100
  dom : Has g dm (DicK w (domKv D n))
  asg : Has g as (DicN w a)
  sys : (as == sysModules) = false
  fc : FcArg g fcv fb

theorem maxsum_call {x dx V dm as : Addr} {vars : List Nat} {a : List (Int × Int)} {ms : Int} {fcv : Value} {fb : Bool} {Q : Value → Shared → Prop} (hA : Ok A 5) (hg : Sub g s.heap) (T : Stat w g)
    (gx : g.get? x = some (instObj 371 dx)) (gd : Has g dx (MsD w ms)) (C : CallIn w g D n V dm as vars a fcv fb) (L : Led g s.heap (cS D n Z noS2)) (Zk : ZOk n Z)
    (h : ∀ s' b Z', Chg g s s' → Led g s'.heap (cS D n Z' noS2) → Eff n (fun y v => y ∈ vars ∧ a.lookup (y : Int) = none ∧ asgSum a vars + v > ms) Z Z' →
      (b = false → asgSum a vars > ms ∨ ∃ y ∈ vars, a.lookup (y : Int) = none ∧ Z'.X y = []) → (b = true → asgSum a vars ≤ ms ∧ ∀ z, z < n → Z.X z ≠ [] → Z'.X z ≠ []) → Q (.bool b) s') :
    codeAny (model Pr w) A (.call (.ref 368) ⟨[.ref x, .ref V, .ref dm, .ref as, fcv], []⟩) (Rv Q) s := by
  obtain ⟨vs, iv, gV⟩ := C.vs.ints
  obtain ⟨_, gd, q, tms, rfl⟩ := gd
  have lv := ints_length iv
  rw [List.length_map] at lv
  refine r_enterC (binds := [("self", .ref x), ("variables", .ref V), ("domains", .ref dm), ("assignments", .ref as), ("forwardcheck", fcv)]) (by exact rfl) hA.room hg T (by kernel_rfl) (BindsTo.of_defaults rfl ((T.mono hg.get).K 361 _ (by exact rfl)) rfl rfl rfl) (by rfl) L fun Lc s S => ?_
  refine r_assign (r_attr (r_local S rfl (attr_plain (S.stat T) (S.base gx) (S.base gd) ga_ms (fo_mult q _) rfl fun s' g' => ?_)))
  have S := S.grow g'
  refine r_store S fun s' S => ?_
  refine r_assign (r_attr (r_local S rfl (attr_plain (S.stat T) (S.base gx) (S.base gd) ga_ms (fo_maxsum q _) rfl fun s' g' => ?_)))
  have S := S.grow g'
  refine r_store S fun s' S => ?_
  refine r_assign (r_int fun t s' g' => ?_)
  have S := S.grow g'
  refine r_store S fun s' S => ?_
  refine r_if (t_name (r_local S rfl (tr_none ?_)))
  rw [if_neg (by decide)]
  refine r_for (r_local S rfl (.mk (fun i m cm S => ∃ t, m = lo [("sum", .int (asgSum a (vars.take i)) t), ("maxsum", .int ms tms), ("forwardcheck", fcv), ("assignments", .ref as), ("domains", .ref dm), ("variables", .ref V)] ∧ cm = [] ∧ S = cS D n Z noS2)
    (itb_list hA.hd (S.baseH gV)) ⟨_, _, _, ⟨t, rfl, rfl, rfl⟩, S.fit⟩ (fun i P' m cm S s hi X => X.baseH gV) (fun i I ψ m cm S s v hi hv hval S => ?_) fun m cm S s hv S => ?_))
  · obtain ⟨t, rfl, rfl, rfl⟩ := hv
    obtain ⟨y, ty, hy, rfl⟩ := vars_get iv hval
    refine a_name (r_store S fun s S => ?_)
    refine r_if (t_cmp (r_local S rfl (r_local S rfl (n_in C.sys (S.baseH C.asg) fun s' g' => tr_bool ?_))))
    have S := S.grow g'
    cases hl : a.lookup (y : Int) with
    | none =>
      rw [if_neg (by simp)]
      refine r_nil (k_next (r_nil ⟨_, _, _, ⟨t, rfl, rfl, rfl⟩, ?_⟩))
      rw [take_snoc hy, asgSum_snoc, hl, Option.getD_none, Int.add_zero]
      exact S.fit
    | some u =>
      rw [if_pos (by simp)]
      refine r_aug (r_loadLocal S rfl (r_sub (r_local S rfl (r_local S rfl ⟨inPyDicN (S.baseH C.asg), n_get (S.baseH C.asg) hl fun t' s' g' => ?_⟩))))
      have S := S.grow g'
      refine i_iadd fun t' s' g' => ?_
      have S := S.grow g'
      refine r_store S fun s' S => ?_
      refine r_nil (k_next (r_nil ⟨_, _, _, ⟨t', rfl, rfl, rfl⟩, ?_⟩))
      rw [take_snoc hy, asgSum_snoc, hl, Option.getD_some]
      exact S.fit
  obtain ⟨t, rfl, rfl, rfl⟩ := hv
  rw [List.take_of_length_le (by omega)] at S
  refine r_nil (k_next ?_)
  refine r_if (t_cmp (r_callName (r_built (S.stat T) nb_type bt_type (r_cw (args_cons (r_local S rfl (args_nil ⟨keeps_type _ _, call_type_of (Tx := "int") rfl (by decide) ?_⟩)))))))
  refine r_built (S.stat T) nb_float bt_float (wpAny_is_other rfl (by simp) (tr_bool ?_))
  rw [if_neg (by decide)]
  refine r_nil (k_next ?_)
  refine r_if (t_cmp (r_local S rfl (r_local S rfl (P.gt_int (tr_bool ?_)))))
  by_cases hgt : asgSum a vars > ms
  · rw [if_pos (by simpa using hgt)]
    exact r_ret (r_bool (h _ false Z S.chg S.led Eff.refl (fun _ => .inl hgt) (by simp)))
  rw [if_neg (by simpa using hgt)]
  refine r_nil (k_next ?_)
  have hle : asgSum a vars ≤ ms := by omega
  refine r_if (t_name (r_local S rfl (tr_fc (S.stat T) (C.fc.mono S.chg.sub) fun s' g' => ?_)))
  have S := S.grow g'
  cases fb with
  | false =>
    rw [if_neg (by decide)]
    exact r_nil (k_next (r_nil (k_next (r_ret (r_bool (h _ true Z S.chg S.led Eff.refl (by simp) fun _ => ⟨hle, fun _ _ q => q⟩))))))
  | true =>
  rw [if_pos rfl]
  refine r_for (r_local S rfl (.mk (fun i m cm S => ∃ Z', m = lo [("sum", .int (asgSum a vars) t), ("maxsum", .int ms tms), ("assignments", .ref as), ("domains", .ref dm), ("variables", .ref V)] ∧ cm = [] ∧ S = cS D n Z' noS2 ∧
      Eff n (fun y v => y ∈ vars ∧ a.lookup (y : Int) = none ∧ asgSum a vars + v > ms) Z Z' ∧ ∀ z, z < n → Z.X z ≠ [] → Z'.X z ≠ [])
    (itb_list hA.hd (S.baseH gV)) ⟨_, _, _, ⟨Z, rfl, rfl, rfl, Eff.refl, fun _ _ q => q⟩, S.fit⟩ (fun i P' m cm S s hi X => X.baseH gV) (fun i I ψ m cm S s v hi hv hval S => ?_) fun m cm S s hv S => ?_))
  · obtain ⟨Z', rfl, rfl, rfl, hE, hN⟩ := hv
    obtain ⟨y, ty, hy, rfl⟩ := vars_get iv hval
    have ym := List.mem_of_getElem? hy
    have yn := C.lt y ym
    have Zk' := Zk.eff hE
    refine a_name (r_store S fun s S => ?_)
    refine r_if (t_cmp (r_local S rfl (r_local S rfl (n_notin C.sys (S.baseH C.asg) fun s' g' => tr_bool ?_))))
    have S := S.grow g'
    cases hl : a.lookup (y : Int) with
    | some u =>
      rw [if_neg (by simp)]
      exact r_nil (k_next (r_nil ⟨_, _, _, ⟨Z', rfl, rfl, rfl, hE, hN⟩, S.fit⟩))
    | none =>
    rw [if_pos (by simp)]
    refine r_assign (r_sub (r_local S rfl (r_local S rfl ⟨inPyDict (S.baseH C.dom), d_get (S.baseH C.dom) (domKv_at D yn) fun s' g' => ?_⟩)))
    have S := S.grow g'
    refine r_store S fun s' S => ?_
    refine r_for (r_copy (r_local S rfl ⟨_, _, _, _, rfl, S.stat T, S.at (cs_d yn), sk_dom, bmD__getitem__, by have := Zk'.size y yn; omega, fun l s' g' hll hlf => ?_⟩))
    obtain ⟨us, iu, hu⟩ := hll.ints
    have lu := ints_length iu
    have S := S.newE g' (9, 0) hu hlf
    refine .mk (fun j m cm S => ∃ Z2, m = lo [("domain", .ref (D y).d), ("sum", .int (asgSum a vars) t), ("maxsum", .int ms tms), ("assignments", .ref as), ("domains", .ref dm), ("variables", .ref V)] ∧ cm = [] ∧
        S = cS D n Z2 (updS noS2 (9, 0) (l, LstI us)) ∧ Eff n (fun y v => y ∈ vars ∧ a.lookup (y : Int) = none ∧ asgSum a vars + v > ms) Z Z2 ∧ Z2.X y = seen (fun v => decide (asgSum a vars + v ≤ ms)) (Z'.X y) j ∧ ∀ z, z < n → z ≠ y → Z.X z ≠ [] → Z2.X z ≠ [])
      (itb_list hA.hd (S.at (l := (9, 0)) rfl)) ⟨_, _, _, ⟨Z', rfl, rfl, rfl, hE, seen_0.symm, fun z h1 _ h3 => hN z h1 h3⟩, S.fit⟩ (fun i P' m cm S s hi X => ?_) (fun j I ψ m cm S s v hj hv hval S => ?_) fun m cm S s hv S => ?_
    · obtain ⟨Z2, rfl, rfl, rfl, _⟩ := hi
      exact X.at (l := (9, 0)) rfl
    · obtain ⟨Z2, rfl, rfl, rfl, hE2, hX, hN2⟩ := hv
      obtain ⟨k, tk, hk, rfl⟩ := ints_get iu hval
      have Zk2 := Zk.eff hE2
      refine a_name (r_store S fun s S => ?_)
      refine r_if (t_cmp (r_bin (r_local S rfl (r_local S rfl (i_add fun t s' g' => ?_)))))
      have S := S.grow g'
      refine r_local S rfl (P.gt_int (tr_bool ?_))
      by_cases hb : asgSum a vars + k > ms
      · rw [if_pos (by simpa using hb)]
        have hX' := hX.trans (seen_at hk)
        have nd := Zk2.nodup y yn
        have sz := Zk2.size y yn
        refine r_expr (r_callMeth (r_local S rfl (fnN_dom fi_hide ty_hide (S.stat T) (S.at (cs_d yn)) (S.baseH (C.B.dd y yn)) (fun q => by kernel_rfl) ?_)))
        refine r_cw (args_cons (r_local S rfl (args_nil ⟨keeps_K (S.stat T).K kp_hide, hide_in (hA.deeper.le (by decide)) S yn C.B T hX' (not_mem_pre (hX' ▸ nd)) (by omega) (by omega) fun s' S => ?_⟩)))
        refine r_nil (k_next (r_nil ⟨_, _, _, ⟨_, rfl, rfl, rfl, hE2.hide hX' ⟨ym, hl, hb⟩, ?_, fun z h1 h2 h3 => by simpa [setX, h2] using hN2 z h1 h2 h3⟩, S.fit⟩))
        rw [seen_next hk, if_neg (by simp; omega)]
        simp [setX]
      · rw [if_neg (by simpa using hb)]
        refine r_nil (k_next (r_nil ⟨_, _, _, ⟨Z2, rfl, rfl, rfl, hE2, ?_, hN2⟩, S.fit⟩))
        rw [hX, seen_next hk, if_pos (by simp; omega), seen_at hk]
    obtain ⟨Z2, rfl, rfl, rfl, hE2, hX, hN2⟩ := hv
    refine r_nil (k_next ?_)
    refine r_if (t_not (t_name (r_local S rfl (truthN (S.stat T) bmD__len__ nobool_dom (S.at (cs_d yn)) (by have := (Zk.eff hE2).size y yn; omega) fun s' g' => ?_))))
    have S := (S.grow g').dropE (E' := noS2) (fun _ _ e => by cases e)
    cases hem : Z2.X y with
    | nil =>
      rw [if_pos (by rfl)]
      have S := S.unpin
      exact r_ret (r_bool (h _ false Z2 S.chg S.led hE2 (fun _ => .inr ⟨y, ym, hl, hem⟩) (by simp)))
    | cons k0 r0 =>
      rw [if_neg (by simp)]
      exact r_nil (k_next (r_nil (k_next (r_nil ⟨_, _, _, ⟨Z2, rfl, rfl, rfl, hE2, fun z h1 h3 => by
        by_cases q : z = y
        · rw [q, hem]; simp
        · exact hN2 z h1 q h3⟩, S.fit⟩))))
  obtain ⟨Z', rfl, rfl, rfl, hE, hN⟩ := hv
  exact r_nil (k_next (r_nil (k_next (r_nil (k_next (r_ret (r_bool (h _ true Z' S.chg S.led hE (by simp) fun _ => ⟨hle, hN⟩))))))))
end
end Mine
end

section
open PySem PySem.W PySem.Calls PyProof.Rows
namespace Mine

def fnd1 (a : List (Int × Int)) (st : List Int) (x : Nat) : Int := match a.lookup (x : Int) with | some v => if st.any (· == v) = true then 1 else 0 | none => 0
def mis1 (a : List (Int × Int)) (x : Nat) : Int := match a.lookup (x : Int) with | some v => 0 | none => 1
def sumBy (f : Nat → Int) : List Nat → Int
  | [] => 0
  | x :: r => f x + sumBy f r
theorem sumBy_snoc (f : Nat → Int) (x : Nat) : ∀ l : List Nat, sumBy f (l ++ [x]) = sumBy f l + f x
  | [] => by simp [sumBy]
  | y :: r => by simp [sumBy, sumBy_snoc f x r]; omega
def fnd (a : List (Int × Int)) (st : List Int) : List Nat → Int := sumBy (fnd1 a st)
def mis (a : List (Int × Int)) : List Nat → Int := sumBy (mis1 a)

def SisD (w : World) (st : Addr) (nn : Int) (o : Obj) : Prop := ∃ (q : Nat × Nat × Nat × Nat) (t : Tok), o = dictOf [attrE w "_set" q.1 (.ref st), attrE w "_n" q.2.1 (.int nn t), attrE w "_exact" q.2.2.1 (.bool false)] q.2.2.2
theorem fo_set {w : World} (q : Nat × Nat × Nat × Nat) (st : Addr) (v : Value) : findObj (Kf w) 399 (some (dictOf [attrE w "_set" q.1 (.ref st), attrE w "_n" q.2.1 v, attrE w "_exact" q.2.2.1 (.bool false)] q.2.2.2)) "_set" = some (.value (.ref st)) := by kernel_rfl
theorem fo_n {w : World} (q : Nat × Nat × Nat × Nat) (st : Addr) (v : Value) : findObj (Kf w) 399 (some (dictOf [attrE w "_set" q.1 (.ref st), attrE w "_n" q.2.1 v, attrE w "_exact" q.2.2.1 (.bool false)] q.2.2.2)) "_n" = some (.value v) := by kernel_rfl
theorem fo_exact {w : World} (q : Nat × Nat × Nat × Nat) (st : Addr) (v : Value) : findObj (Kf w) 399 (some (dictOf [attrE w "_set" q.1 (.ref st), attrE w "_n" q.2.1 v, attrE w "_exact" q.2.2.1 (.bool false)] q.2.2.2)) "_exact" = some (.value (.bool false)) := by kernel_rfl
theorem ga_sis {w : World} : findIn (Kf w) (.ref 399) "__getattribute__" = some (some (.builtin "object.__getattribute__")) := by kernel_rfl

section
variable {w : World} {A : Around} {s : Shared} {g : Heap} {D : Nat → DA} {n : Nat} {Z : DSt} {env : Env}
theorem l_in {cls : Value} {l : Addr} {ns : List Int} {k : Int} {t : Tok} {Q : Value → Shared → Prop} (hl : Has s.heap l (LstN ns)) (h : Q (.bool (ns.any (· == k))) s) : WA w A (compareOp .In (.int k t) (.ref l)) Q s := by
  obtain ⟨vs, iv, hl⟩ := hl.ints
  exact in_list_ints hl.listOf iv h
theorem l_notin {l : Addr} {ns : List Int} {k : Int} {t : Tok} {Q : Value → Shared → Prop} (hl : Has s.heap l (LstN ns)) (h : Q (.bool (!(ns.any (· == k)))) s) : WA w A (compareOp .NotIn (.int k t) (.ref l)) Q s := by
  obtain ⟨vs, iv, hl⟩ := hl.ints
  exact notin_list_ints hl.listOf iv h
theorem i_iaddb {i : Int} {t : Tok} {b : Bool} {Q : Value → Shared → Prop} (h : ∀ t s', Grow s s' → Q (.int (i + if b = true then (1 : Int) else 0) t) s') : WA w A (inplaceOp .Add (.int i t) (.bool b)) Q s := iadd_int_bool (h _ _ (Grow.tok s _))
theorem t_attr {value : Expr} {attr : Str} {p : Pos} {Q : Bool → Shared → Prop} (h : WA w A (eval (.Attribute value attr p) env) (fun v s₁ => WA w A (truthy v) Q s₁) s) :
    WA w A (isTrue (.Attribute value attr p) env (eval (.Attribute value attr p) env)) Q s := wpAny_isTrue_value h (by rfl)

theorem someset_call {x dx V dm as st : Addr} {vars : List Nat} {a : List (Int × Int)} {sv : List Int} {nn : Int} {fcv : Value} {fb : Bool} {Q : Value → Shared → Prop} (hA : Ok A 5) (hg : Sub g s.heap) (T : Stat w g)
    (gx : g.get? x = some (instObj 399 dx)) (gd : Has g dx (SisD w st nn)) (gst : Has g st (LstN sv)) (C : CallIn w g D n V dm as vars a fcv fb) (L : Led g s.heap (cS D n Z noS2)) (Zk : ZOk n Z)
    (h : ∀ s' b Z', Chg g s s' → Led g s'.heap (cS D n Z' noS2) → Eff n (fun y v => y ∈ vars ∧ a.lookup (y : Int) = none ∧ nn - fnd a sv vars = mis a vars ∧ sv.any (· == v) = false) Z Z' →
      (b = false → fnd a sv vars + mis a vars < nn ∨ ∃ y ∈ vars, a.lookup (y : Int) = none ∧ Z'.X y = []) → (b = true → nn ≤ fnd a sv vars + mis a vars ∧ ∀ z, z < n → Z.X z ≠ [] → Z'.X z ≠ []) → Q (.bool b) s') :
    codeAny (model Pr w) A (.call (.ref 396) ⟨[.ref x, .ref V, .ref dm, .ref as, fcv], []⟩) (Rv Q) s := by
  obtain ⟨vs, iv, gV⟩ := C.vs.ints
  obtain ⟨_, gd, q, tn, rfl⟩ := gd
  have lv := ints_length iv
  rw [List.length_map] at lv
  refine r_enterC (binds := [("self", .ref x), ("variables", .ref V), ("domains", .ref dm), ("assignments", .ref as), ("forwardcheck", fcv)]) (by exact rfl) hA.room hg T (by kernel_rfl) (BindsTo.of_defaults rfl ((T.mono hg.get).K 389 _ (by exact rfl)) rfl rfl rfl) (by rfl) L fun Lc s S => ?_
  refine r_assign (r_int fun t s' g' => ?_)
  have S := S.grow g'
  refine r_store S fun s' S => ?_
  refine r_assign (r_int fun t2 s' g' => ?_)
  have S := S.grow g'
  refine r_store S fun s' S => ?_
  refine r_for (r_local S rfl (.mk (fun i m cm S => ∃ t t2, m = lo [("found", .int (fnd a sv (vars.take i)) t), ("missing", .int (mis a (vars.take i)) t2), ("self", .ref x), ("forwardcheck", fcv), ("assignments", .ref as), ("domains", .ref dm), ("variables", .ref V)] ∧ cm = [] ∧ S = cS D n Z noS2)
    (itb_list hA.hd (S.baseH gV)) ⟨_, _, _, ⟨t2, t, rfl, rfl, rfl⟩, S.fit⟩ (fun i P' m cm S s hi X => X.baseH gV) (fun i I ψ m cm S s v hi hv hval S => ?_) fun m cm S s hv S => ?_))
  · obtain ⟨t, t2, rfl, rfl, rfl⟩ := hv
    obtain ⟨y, ty, hy, rfl⟩ := vars_get iv hval
    refine a_name (r_store S fun s S => ?_)
    refine r_if (t_cmp (r_local S rfl (r_local S rfl (n_in C.sys (S.baseH C.asg) fun s' g' => tr_bool ?_))))
    have S := S.grow g'
    cases hl : a.lookup (y : Int) with
    | none =>
      rw [if_neg (by simp)]
      refine r_aug (r_loadLocal S rfl (r_int fun t3 s' g' => i_iadd fun t4 s'' g'' => ?_))
      have S := (S.grow g').grow g''
      refine r_store S fun s' S => ?_
      refine r_nil (k_next (r_nil ⟨_, _, _, ⟨t, t4, rfl, rfl, rfl⟩, ?_⟩))
      unfold fnd mis
      rw [take_snoc hy, sumBy_snoc, sumBy_snoc, show fnd1 a sv y = 0 from by simp [fnd1, hl], show mis1 a y = 1 from by simp [mis1, hl], Int.add_zero]
      exact S.fit
    | some u =>
      rw [if_pos (by simp)]
      refine r_aug (r_loadLocal S rfl (r_cmp (r_sub (r_local S rfl (r_local S rfl ⟨inPyDicN (S.baseH C.asg), n_get (S.baseH C.asg) hl fun t' s' g' => ?_⟩)))))
      have S := S.grow g'
      refine r_attr (r_local S rfl (attr_plain (S.stat T) (S.base gx) (S.base gd) ga_sis (fo_set q _ _) rfl fun s' g' => ?_))
      have S := S.grow g'
      refine l_in (cls := .none) (S.baseH gst) (i_iaddb fun t5 s' g' => ?_)
      have S := S.grow g'
      refine r_store S fun s' S => ?_
      refine r_nil (k_next (r_nil ⟨_, _, _, ⟨t5, t2, rfl, rfl, rfl⟩, ?_⟩))
      unfold fnd mis
      rw [take_snoc hy, sumBy_snoc, sumBy_snoc, show fnd1 a sv y = (if sv.any (· == u) = true then 1 else 0) from by simp only [fnd1, hl], show mis1 a y = 0 from by simp [mis1, hl], Int.add_zero]
      exact S.fit
  obtain ⟨t, t2, rfl, rfl, rfl⟩ := hv
  rw [List.take_of_length_le (by omega)] at S
  refine r_nil (k_next ?_)
  refine r_if (t_name (r_local S rfl (P.truthy_int ?_)))
  by_cases hm : mis a vars = 0
  · rw [if_neg (by simp [hm])]
    refine r_if (t_attr (r_attr (r_local S rfl (attr_plain (S.stat T) (S.base gx) (S.base gd) ga_sis (fo_exact q _ _) rfl fun s' g' => tr_bool ?_))))
    have S := S.grow g'
    rw [if_neg (by decide)]
    refine r_if (t_cmp (r_local S rfl (r_attr (r_local S rfl (attr_plain (S.stat T) (S.base gx) (S.base gd) ga_sis (fo_n q _ _) rfl fun s' g' => P.lt_int (tr_bool ?_))))))
    have S := S.grow g'
    by_cases hlt : fnd a sv vars < nn
    · rw [if_pos (by simpa using hlt)]
      exact r_ret (r_bool (h _ false Z S.chg S.led Eff.refl (fun _ => .inl (by omega)) (by simp)))
    · rw [if_neg (by simpa using hlt)]
      exact r_nil (k_next (r_nil (k_next (r_nil (k_next (r_ret (r_bool (h _ true Z S.chg S.led Eff.refl (by simp) fun _ => ⟨by omega, fun _ _ q => q⟩))))))))
  rw [if_pos (by simpa using hm)]
  refine r_if (t_attr (r_attr (r_local S rfl (attr_plain (S.stat T) (S.base gx) (S.base gd) ga_sis (fo_exact q _ _) rfl fun s' g' => tr_bool ?_))))
  have S := S.grow g'
  rw [if_neg (by decide)]
  refine r_if (t_cmp (r_attr (r_local S rfl (attr_plain (S.stat T) (S.base gx) (S.base gd) ga_sis (fo_n q _ _) rfl fun s' g' => ?_))))
  have S := S.grow g'
  refine r_bin (r_local S rfl (r_local S rfl (i_add fun t3 s' g' => P.gt_int (tr_bool ?_))))
  have S := S.grow g'
  by_cases hgt : nn > mis a vars + fnd a sv vars
  · rw [if_pos (by simpa using hgt)]
    exact r_ret (r_bool (h _ false Z S.chg S.led Eff.refl (fun _ => .inl (by omega)) (by simp)))
  rw [if_neg (by simpa using hgt)]
  refine r_nil (k_next (r_nil (k_next ?_)))
  have hle : nn ≤ fnd a sv vars + mis a vars := by omega
  refine r_if (isTrue_and (t_name (r_local S rfl (tr_fc (S.stat T) (C.fc.mono S.chg.sub) fun s' g' => ?_))))
  have S := S.grow g'
  cases fb with
  | false =>
    rw [if_neg (by decide), if_neg (by decide)]
    exact r_nil (k_next (r_nil (k_next (r_ret (r_bool (h _ true Z S.chg S.led Eff.refl (by simp) fun _ => ⟨hle, fun _ _ q => q⟩))))))
  | true =>
  rw [if_pos rfl]
  refine isTrue_and (t_cmp (r_bin (r_attr (r_local S rfl (attr_plain (S.stat T) (S.base gx) (S.base gd) ga_sis (fo_n q _ _) rfl fun s' g' => ?_)))))
  have S := S.grow g'
  refine r_local S rfl (i_sub fun t4 s' g' => ?_)
  have S := S.grow g'
  refine r_local S rfl (P.eq_int (tr_bool ?_))
  by_cases heq : ¬ (nn - fnd a sv vars = mis a vars)
  · rw [if_neg (by simpa using heq), if_neg (by decide)]
    exact r_nil (k_next (r_nil (k_next (r_ret (r_bool (h _ true Z S.chg S.led Eff.refl (by simp) fun _ => ⟨hle, fun _ _ q => q⟩))))))
  have heq := Decidable.not_not.mp heq
  rw [if_pos (by simpa using heq)]
  refine isTrue_and_nil ?_
  rw [if_pos rfl]
  refine r_for (r_local S rfl (.mk (fun i m cm S => ∃ Z', m = lo [("self", .ref x), ("assignments", .ref as), ("domains", .ref dm), ("variables", .ref V)] ∧ cm = [] ∧ S = cS D n Z' noS2 ∧
      Eff n (fun y v => y ∈ vars ∧ a.lookup (y : Int) = none ∧ nn - fnd a sv vars = mis a vars ∧ sv.any (· == v) = false) Z Z' ∧ ∀ z, z < n → Z.X z ≠ [] → Z'.X z ≠ [])
    (itb_list hA.hd (S.baseH gV)) ⟨_, _, _, ⟨Z, rfl, rfl, rfl, Eff.refl, fun _ _ q => q⟩, S.fit⟩ (fun i P' m cm S s hi X => X.baseH gV) (fun i I ψ m cm S s v hi hv hval S => ?_) fun m cm S s hv S => ?_))
  · obtain ⟨Z', rfl, rfl, rfl, hE, hN⟩ := hv
    obtain ⟨y, ty, hy, rfl⟩ := vars_get iv hval
    have ym := List.mem_of_getElem? hy
    have yn := C.lt y ym
    have Zk' := Zk.eff hE
    refine a_name (r_store S fun s S => ?_)
    refine r_if (t_cmp (r_local S rfl (r_local S rfl (n_notin C.sys (S.baseH C.asg) fun s' g' => tr_bool ?_))))
    have S := S.grow g'
    cases hl : a.lookup (y : Int) with
    | some u =>
      rw [if_neg (by simp)]
      exact r_nil (k_next (r_nil ⟨_, _, _, ⟨Z', rfl, rfl, rfl, hE, hN⟩, S.fit⟩))
    | none =>
    rw [if_pos (by simp)]
    refine r_assign (r_sub (r_local S rfl (r_local S rfl ⟨inPyDict (S.baseH C.dom), d_get (S.baseH C.dom) (domKv_at D yn) fun s' g' => ?_⟩)))
    have S := S.grow g'
    refine r_store S fun s' S => ?_
    refine r_for (r_copy (r_local S rfl ⟨_, _, _, _, rfl, S.stat T, S.at (cs_d yn), sk_dom, bmD__getitem__, by have := Zk'.size y yn; omega, fun l s' g' hll hlf => ?_⟩))
    obtain ⟨us, iu, hu⟩ := hll.ints
    have lu := ints_length iu
    have S := S.newE g' (9, 0) hu hlf
    refine .mk (fun j m cm S => ∃ Z2, m = lo [("domain", .ref (D y).d), ("self", .ref x), ("assignments", .ref as), ("domains", .ref dm), ("variables", .ref V)] ∧ cm = [] ∧
        S = cS D n Z2 (updS noS2 (9, 0) (l, LstI us)) ∧ Eff n (fun y v => y ∈ vars ∧ a.lookup (y : Int) = none ∧ nn - fnd a sv vars = mis a vars ∧ sv.any (· == v) = false) Z Z2 ∧ Z2.X y = seen (fun v => sv.any (· == v)) (Z'.X y) j ∧ ∀ z, z < n → z ≠ y → Z.X z ≠ [] → Z2.X z ≠ [])
      (itb_list hA.hd (S.at (l := (9, 0)) rfl)) ⟨_, _, _, ⟨Z', rfl, rfl, rfl, hE, seen_0.symm, fun z h1 _ h3 => hN z h1 h3⟩, S.fit⟩ (fun i P' m cm S s hi X => ?_) (fun j I ψ m cm S s v hj hv hval S => ?_) fun m cm S s hv S => ?_
    · obtain ⟨Z2, rfl, rfl, rfl, _⟩ := hi
      exact X.at (l := (9, 0)) rfl
    · obtain ⟨Z2, rfl, rfl, rfl, hE2, hX, hN2⟩ := hv
      obtain ⟨k, tk, hk, rfl⟩ := ints_get iu hval
      have Zk2 := Zk.eff hE2
      refine a_name (r_store S fun s S => ?_)
      refine r_if (t_cmp (r_local S rfl (r_attr (r_local S rfl (attr_plain (S.stat T) (S.base gx) (S.base gd) ga_sis (fo_set q _ _) rfl fun s' g' => ?_)))))
      have S := S.grow g'
      refine l_notin (S.baseH gst) (tr_bool ?_)
      cases hb : sv.any (· == k) with
      | false =>
        rw [if_pos (by decide)]
        have hX' := hX.trans (seen_at hk)
        have nd := Zk2.nodup y yn
        have sz := Zk2.size y yn
        refine r_expr (r_callMeth (r_local S rfl (fnN_dom fi_hide ty_hide (S.stat T) (S.at (cs_d yn)) (S.baseH (C.B.dd y yn)) (fun q => by kernel_rfl) ?_)))
        refine r_cw (args_cons (r_local S rfl (args_nil ⟨keeps_K (S.stat T).K kp_hide, hide_in (hA.deeper.le (by decide)) S yn C.B T hX' (not_mem_pre (hX' ▸ nd)) (by omega) (by omega) fun s' S => ?_⟩)))
        refine r_nil (k_next (r_nil ⟨_, _, _, ⟨_, rfl, rfl, rfl, hE2.hide hX' ⟨ym, hl, heq, hb⟩, ?_, fun z h1 h2 h3 => by simpa [setX, h2] using hN2 z h1 h2 h3⟩, S.fit⟩))
        rw [seen_next hk, if_neg (by rw [hb]; decide)]
        simp [setX]
      | true =>
        rw [if_neg (by decide)]
        refine r_nil (k_next (r_nil ⟨_, _, _, ⟨Z2, rfl, rfl, rfl, hE2, ?_, hN2⟩, S.fit⟩))
        rw [hX, seen_next hk, if_pos hb, seen_at hk]
    obtain ⟨Z2, rfl, rfl, rfl, hE2, hX, hN2⟩ := hv
    refine r_nil (k_next ?_)
    refine r_if (t_not (t_name (r_local S rfl (truthN (S.stat T) bmD__len__ nobool_dom (S.at (cs_d yn)) (by have := (Zk.eff hE2).size y yn; omega) fun s' g' => ?_))))
    have S := (S.grow g').dropE (E' := noS2) (fun _ _ e => by cases e)
    cases hem : Z2.X y with
    | nil =>
      rw [if_pos (by rfl)]
      have S := S.unpin
      exact r_ret (r_bool (h _ false Z2 S.chg S.led hE2 (fun _ => .inr ⟨y, ym, hl, hem⟩) (by simp)))
    | cons k0 r0 =>
      rw [if_neg (by simp)]
      exact r_nil (k_next (r_nil (k_next (r_nil ⟨_, _, _, ⟨Z2, rfl, rfl, rfl, hE2, fun z h1 h3 => by
        by_cases q : z = y
        · rw [q, hem]; simp
        · exact hN2 z h1 q h3⟩, S.fit⟩))))
  obtain ⟨Z', rfl, rfl, rfl, hE, hN⟩ := hv
  exact r_nil (k_next (r_nil (k_next (r_nil (k_next (r_ret (r_bool (h _ true Z' S.chg S.led hE (by simp) fun _ => ⟨hle, hN⟩))))))))
end
end Mine
end

section
open PySem PySem.W PySem.Calls PyProof.Rows
namespace Mine

section
variable {w : World} {A : Around} {R : GenEnd} {Y : Protocol} {n : Nat} {s₀ : Shared} {c : Code} {fs : List Frame} {s : Shared} {env : Env}
  {K : Flow → Sem Fin} {H : Value → Sem Fin} {gd : Bool → Bool} {lv : List Value → List Value}

abbrev SG (w : World) (A : Around) (R : GenEnd) (Y : Protocol) (n : Nat) (s₀ : Shared) (c : Code) (t : Sem Fin) (fs : List Frame) (s : Shared) : Prop := Seg (model Pr w) A R Y n s₀ c t fs s

def After (w : World) (A : Around) (R : GenEnd) (Y : Protocol) (n : Nat) (s₀ : Shared) (c : Code) (fs : List Frame) (t : Sem Fin) (K : Flow → Sem Fin) : Flow → Shared → Prop :=
  fun f s' => match f with | .next => SG w A R Y n s₀ c t fs s' | f => SG w A R Y n s₀ c (K f) fs s'

theorem pre_wrap (rest : List Stmt) : ∀ (pre : List Stmt) (K : Flow → Sem Fin), (execs (pre ++ rest) env).wrap K H gd lv = (execs pre env).wrap (fun f => match f with | .next => (execs rest env).wrap K H gd lv | f => K f) H gd lv
  | [], K => rfl
  | st :: pre, K => by
    rw [List.cons_append, execs_cons_wrap, execs_cons_wrap]
    refine Sem.wrap_congr _ _ _ (fun f => ?_) (fun _ => rfl)
    cases f <;> first | rfl | exact pre_wrap rest pre K

theorem sg_pre (pre : List Stmt) {rest : List Stmt} (h : WA w (A.over c fs) (execs pre env) (After w A R Y n s₀ c fs ((execs rest env).wrap K H gd lv) K) s) :
    SG w A R Y n s₀ c ((execs (pre ++ rest) env).wrap K H gd lv) fs s := by
  rw [pre_wrap]
  refine seg_wrap (noE (WA.mono h fun f s' h' => ?_))
  cases f <;> exact h'

theorem sg_of (t : Sem Fin) (h : WA w (A.over c fs) t (fun fin s' => SG w A R Y n s₀ c (.pure fin) fs s') s) : SG w A R Y n s₀ c t fs s := by
  have e : t.wrap (fun fin => .pure fin) .raise id id = t := by
    rw [← Sem.bind_eq_wrap]
    exact bind_pure t
  rw [← e]
  exact seg_wrap (noE h)

/-- what stands behind a statement of a list -/
def KR (rest : List Stmt) (env : Env) (K : Flow → Sem Fin) (H : Value → Sem Fin) (gd : Bool → Bool) (lv : List Value → List Value) : Flow → Sem Fin :=
  fun f => match f with | .next => (execs rest env).wrap K H gd lv | f => K f
abbrev ownF (K : Flow → Sem Fin) (H : Value → Sem Fin) (gd : Bool → Bool) (lv : List Value → List Value) (env : Env) (c : Code) (p : Pos) : Frame :=
  .ret (fun r => ((match r with | .ok f => (.pure f : Sem Flow) | .error e => .raise e).onRaise fun (x : Value) => do
        if (← field x 1) == Value.none then unsupported "frame.own-activation:exception-without-traceback"
        setFlight x env.frame).wrap K H gd lv) none (gd false) (lv []) c p []

theorem sg_pop {f : Flow} {c₁ : Code} {p : Pos} (h : SG w A R Y n s₀ c₁ (K f) fs s) : SG w A R Y n s₀ c (.pure (.done f)) (ownF K H gd lv env c₁ p :: fs) s := seg_leaf (.ok f) h

abbrev KW (cw : Code) : Flow → Sem Fin := fun f => match f with
  | .next | .cont => .pure (.again cw)
  | .brk => .pure (.done .next)
  | .ret v => .pure (.done (.ret v))
abbrev HW (env : Env) : Value → Sem Fin := fun e => (do noteFrame e env; theTreesLotGoes e : Sem Unit).wrap (fun _ => .raise e) .raise id id

theorem sg_while {test : Expr} {body orelse rest : List Stmt} {pos : Pos} (inv : Nat → Shared → Prop)
    (turn : ∀ p k s, inv k s → (∀ k' s', k' < k → inv k' s' → SG w A R Y n s₀ (.whileLoop test body orelse env) (.pure (.again (.whileLoop test body orelse env))) (ownF (KR rest env K H gd lv) H gd lv env c p :: fs) s') →
      WA w (A.over (.whileLoop test body orelse env) (ownF (KR rest env K H gd lv) H gd lv env c p :: fs)) (isTrue test env (eval test env)) (fun b s' => b = true ∧
        SG w A R Y n s₀ (.whileLoop test body orelse env) ((execs body env).wrap (KW (.whileLoop test body orelse env)) (HW env) id id) (ownF (KR rest env K H gd lv) H gd lv env c p :: fs) s') s)
    (k : Nat) (h : inv k s) (hq : (Code.whileLoop test body orelse env).quiet = true := by rfl) : SG w A R Y n s₀ c ((execs (.While test body orelse pos :: rest) env).wrap K H gd lv) fs s := by
  refine seg_execs_cons (seg_While fun p => ?_)
  have key : ∀ k s, inv k s → SG w A R Y n s₀ (.whileLoop test body orelse env) ((model Pr w).den (.whileLoop test body orelse env)) (ownF (KR rest env K H gd lv) H gd lv env c p :: fs) s := by
    intro k
    induction k using Nat.strongRecOn with
    | ind k ih =>
      intro s hi
      refine seg_whileLoop (noE (WA.mono (turn p k s hi fun k' s' hk hi' => seg_again hq (ih k' hk s' hi')) fun b s' hb => ?_))
      rw [if_pos hb.1]
      exact hb.2
  exact key k s h

theorem sg_bind {α : Type} {m : Sem α} {f : α → Sem Flow} (h : WA w (A.over c fs) m (fun a s' => SG w A R Y n s₀ c ((f a).wrap K H gd lv) fs s') s) : SG w A R Y n s₀ c ((m >>= f).wrap K H gd lv) fs s := by
  rw [Sem.bind_eq_wrap', Sem.wrap_wrap]
  exact seg_wrap (noE h)

/-- a list, walked by iterators that any place may draw from -/
theorem itb2_list {B : Around} {l : Addr} {xs : List Value} (hh : B.handled = none) (hl : Has s.heap l (LstI xs)) {Q : Value → Shared → Prop}
    (h : ∀ I φ s₂, Grow s s₂ → Has s₂.heap I (φ 0) → s.heap.get? I = none → (∀ B' : Around, B'.handled = none → It w B' I xs.length (fun i v => xs[i]? = some v) φ (fun h => Has h l (LstI xs))) → Q (.ref I) s₂) : WA w B (pyIter (.ref l)) Q s := by
  have toI : ∀ {h : Heap} {I : Addr} {i : Nat}, Has h I (ItO "list_iterator" (fun i => #[.ref l, .int i 0]) i) → h.IsListIter I l i := fun ⟨o, e, a, b⟩ => ⟨o, e, a, b⟩
  refine wpAny_pyIter_list hl.listOf ?_
  refine h _ (ItO "list_iterator" (fun i => #[.ref l, .int i 0])) _ (Grow.alloc _ _) ⟨_, Heap.get?_push_size _ rfl, rfl, rfl⟩ (Heap.get?_none_of_le (Nat.le_refl _)) fun B' hh' => ?_
  refine ⟨fun i o q => ⟨_, q.1, by decide⟩, fun i s Q hi hI hs h => ?_, fun s Q hI hs h => ?_, fun i s Q hI h => ?_⟩
  · exact wpAny_pyNext_list_item (toI hI) hs.listOf (x := xs[i]) (by simp [hi]) fun h' ⟨o, e, a, b⟩ k => h _ h' s.toks (by simp [hi]) ⟨o, e, a, b⟩ k.extBut
  · exact wpAny_pyNext_list_end hh' (toI hI) hs.listOf (by simp) fun h' k => h h' s.toks k
  · exact wpAny_pyIter_listiter (toI hI) h

/-- a for-loop over a list in a generator whose else-part yields -/
theorem sg_for {ι : Type} {cx : Cx} {P : List (Addr × (Obj → Prop))} {target iter : Expr} {body orelse rest : List Stmt} {pos : Pos} (inv : Nat → Loc → Loc → Sto ι → Prop)
    (h : WA w (A.over c fs) (eval iter env) (fun xv s₁ => ∃ l xs, xv = .ref l ∧ Has s₁.heap l (LstI xs) ∧
      (∃ lm cm S, inv 0 lm cm S ∧ St cx P lm cm S s₁) ∧ (∀ i P' lm cm S s, inv i lm cm S → St cx P' lm cm S s → Has s.heap l (LstI xs)) ∧
      (∀ p i I ψ lm cm S s v, inv i lm cm S → xs[i]? = some v → St cx (P ++ [(I, ψ)]) lm cm S s →
        WA w (A.over (.forLoop target (.ref I) body orelse env) (ownF (KR rest env K H gd lv) H gd lv env c p :: fs)) (assign target env v) (fun _ s₂ => WA w (A.over (.forLoop target (.ref I) body orelse env) (ownF (KR rest env K H gd lv) H gd lv env c p :: fs)) (execs body env)
          (fun f s' => match f with
            | .next | .cont => ∃ lm cm S, inv (i + 1) lm cm S ∧ St cx (P ++ [(I, ψ)]) lm cm S s'
            | .brk => SG w A R Y n s₀ c ((execs rest env).wrap K H gd lv) fs s'
            | .ret v => False) s₂) s) ∧
      (∀ p lm cm S s, inv xs.length lm cm S → St cx P lm cm S s → SG w A R Y n s₀ (.block orelse env) ((model Pr w).den (.block orelse env)) (ownF (KR rest env K H gd lv) H gd lv env c p :: fs) s)) s)
    (hh : (A.over c fs).handled = none) (hh' : ∀ it p, (A.over (.forLoop target it body orelse env) (ownF (KR rest env K H gd lv) H gd lv env c p :: fs)).handled = none)
    (hs : ∀ x, foldedSetIterable iter env x = pure x := by intro _; rfl)
    (hq1 : ∀ it, (Code.forLoop target it body orelse env).quiet = true := by intro _; rfl) (hq2 : (Code.block orelse env).quiet = true := by rfl) :
    SG w A R Y n s₀ c ((execs (.For target iter body orelse pos :: rest) env).wrap K H gd lv) fs s := by
  refine seg_execs_cons ?_
  show SG w A R Y n s₀ c ((exec (.For target iter body orelse pos) env).wrap (KR rest env K H gd lv) H gd lv) fs s
  rw [exec_For]
  refine sg_bind (wpAny_standAt (sg_bind (WA.mono h fun xv s₁ h₁ => sg_bind (wpAny_of_eq (hs xv) (sg_bind (wpAny_standAt ?_))))))
  obtain ⟨l, xs, rfl, hl, ⟨lm, cm, S, i0, X⟩, hsrc, turn, fin⟩ := h₁
  refine sg_bind (wpAny_holding (itb2_list hh hl fun I φ s₂ g hI hfree X' => ?_))
  have X₂ := X.pin g hI hfree
  refine seg_call fun p => ?_
  have Y' := X' _ (hh' (.ref I) p)
  have key : ∀ k i lm cm S s, i + k = xs.length → inv i lm cm S → St cx (P ++ [(I, φ i)]) lm cm S s →
      SG w A R Y n s₀ (.forLoop target (.ref I) body orelse env) ((model Pr w).den (.forLoop target (.ref I) body orelse env)) (ownF (KR rest env K H gd lv) H gd lv env c p :: fs) s := by
    intro k
    induction k with
    | zero =>
      intro i lm cm S s hik hinv X
      have e : i = xs.length := by omega
      subst e
      refine sg_of _ ?_
      show WA w _ ((forTurn target (.ref I) body orelse env).onRaise (fun x => do noteFrame x env; theTreesLotGoes x)) _ s
      refine wpAny_onRaise (noE ?_)
      simp only [forTurn]
      refine wpAny_bind (wpAny_standAt (wpAny_bind (wpAny_onRaise (noE (Y'.done s _ X.lastAt (hsrc _ _ _ _ _ _ hinv X) fun h' tk hext => ?_)))))
      exact wpAny_pure (seg_again hq2 (fin p lm cm S _ hinv (X.drop hext)))
    | succ k ih =>
      intro i lm cm S s hik hinv X
      have hi : i < xs.length := by omega
      refine sg_of _ ?_
      show WA w _ ((forTurn target (.ref I) body orelse env).onRaise (fun x => do noteFrame x env; theTreesLotGoes x)) _ s
      refine wpAny_onRaise (noE ?_)
      simp only [forTurn]
      refine wpAny_bind (wpAny_standAt (wpAny_bind (wpAny_onRaise (noE (Y'.item i s _ hi X.lastAt (hsrc _ _ _ _ _ _ hinv X) fun v h' tk hv hI' hext => ?_)))))
      have X1 := X.repin (t := tk) hI' hext
      refine wpAny_bind (it_go Y' X1.lastAt ?_)
      refine wpAny_bind (WA.mono (turn p i I (φ (i + 1)) lm cm S _ v hinv hv X1) fun _ s₂ h₂ => wpAny_bind (WA.mono h₂ fun f s₃ h₃ => ?_))
      cases f with
      | next => obtain ⟨lm, cm, S, a, b⟩ := h₃; exact wpAny_pure (seg_again (hq1 _) (ih (i + 1) lm cm S _ (by omega) a b))
      | cont => obtain ⟨lm, cm, S, a, b⟩ := h₃; exact wpAny_pure (seg_again (hq1 _) (ih (i + 1) lm cm S _ (by omega) a b))
      | brk =>
        exact wpAny_pure (sg_pop (K := KR rest env K H gd lv) h₃)
      | ret v => exact h₃.elim
  exact key xs.length 0 lm cm S s₂ (by omega) i0 X₂

/-- the yield at an else-part's head: the walk ends there -/
theorem sg_yield {e : Expr} {ypos pos : Pos} {rest : List Stmt} (hfs : splitAtGen fs = none) (hfg : fs.any Frame.guarded = false)
    (h : WA w (A.over (.block (.Expr (.Yield (some e) ypos) pos :: rest) env) fs) (eval e env) (fun v s' => ∀ kap : Resume → Shared → Prop, Y n s₀ v s' kap) s) (hco : env.scope.isCoroutine = false := by rfl) (hi : interactive env = false := by rfl) :
    SG w A R Y (n + 1) s₀ (.block (.Expr (.Yield (some e) ypos) pos :: rest) env) ((model Pr w).den (.block (.Expr (.Yield (some e) ypos) pos :: rest) env)) fs s := by
  show Seg _ A R Y (n + 1) s₀ _ (((execs (.Expr (.Yield (some e) ypos) pos :: rest) env).onRaise (fun x => do noteFrame x env; theTreesLotGoes x)) >>= fun f => pure (.done f)) fs s
  rw [Sem.onRaise_eq_wrap, Sem.bind_eq_wrap', Sem.wrap_wrap]
  refine seg_execs_cons (seg_Expr_Yield hfs rfl hfg (noE (WA.mono h fun v s' h' kap _ => h' kap)) hco hi)
end
end Mine
end

section
open PySem PySem.W PySem.Calls PyProof.Rows
namespace Mine

section
variable {ι : Type} {c : Cx} {P : List (Addr × (Obj → Prop))} {m cm : Loc} {S Sc : Sto ι} {s : Shared}

/-- the ledger when the lent part has come back, with whatever new is in it -/
def over2 {ι : Type} (Sc Sc' S : Sto ι) : Sto ι := fun l => match Sc' l with | some p => some p | none => if (Sc l).isSome then none else S l

/-- a part of the ledger is lent to a callee; it may bring new objects -/
theorem St.call2 (X : St c P m cm S s) (hsub : ∀ l p, Sc l = some p → S l = some p) :
    ∃ g, Sub g s.heap ∧ Sub c.g g ∧ Led g s.heap Sc ∧ (∀ l a φ, S l = some (a, φ) → Sc l = none → Has g a φ) ∧
      ∀ s' Sc', Chg g s s' → Led g s'.heap Sc' → St c P m cm (over2 Sc Sc' S) s' := by
  let p : Addr → Prop := fun a => ∃ l φ, Sc l = some (a, φ)
  have H := hide_get s.heap p
  have lent : ∀ {a : Addr}, p a → ∃ l φ, mkW c.L m c.cs cm P S (.lab l) = some (a, φ) ∧ ∃ ψ, Sc l = some (a, ψ) := fun ⟨l, φ, e⟩ => ⟨l, φ, hsub l _ e, φ, e⟩
  have sub : Sub (hide s.heap p) s.heap := ⟨fun a o e => by
    by_cases q : p a
    · rw [(H a).1 q] at e; cases e
    · rw [(H a).2 q] at e; exact e⟩
  have cg : Sub c.g (hide s.heap p) := ⟨fun a o e => by
    refine ((H a).2 fun q => ?_).trans (X.base e)
    obtain ⟨l, φ, e1, _⟩ := lent q
    rw [(X.own.has _ _ _ e1).1] at e; cases e⟩
  refine ⟨hide s.heap p, sub, cg, ⟨fun l a φ e => ⟨(X.own.has (.lab l) a φ (hsub _ _ e)).2, (H a).1 ⟨l, φ, e⟩⟩, fun l l' a φ φ' e e' => X.inj (hsub _ _ e) (hsub _ _ e')⟩, fun l a φ e hn => ?_, fun s' Sc' hc hl => ?_⟩
  · obtain ⟨o, ho, hφ⟩ := X.at e
    refine ⟨o, ((H a).2 fun q => ?_).trans ho, hφ⟩
    obtain ⟨l', φ', e1, ψ, e2⟩ := lent q
    have : l' = l := X.inj e1 e
    rw [this, hn] at e2; cases e2
  · have inG : ∀ {t : Tag ι} {a : Addr} {φ : Obj → Prop}, mkW c.L m c.cs cm P S t = some (a, φ) → (∀ l, t = .lab l → Sc l = none) → c.g.get? a = none ∧ ∃ o, (hide s.heap p).get? a = some o ∧ φ o := by
      intro t a φ e hn
      obtain ⟨h1, o, ho, hφ⟩ := X.own.has t a φ e
      refine ⟨h1, o, ((H a).2 fun q => ?_).trans ho, hφ⟩
      obtain ⟨l', φ', e1, ψ, e2⟩ := lent q
      have : Tag.lab l' = t := X.own.inj _ _ _ _ _ e1 e
      rw [hn l' this.symm] at e2; cases e2
    have shape : ∀ {t : Tag ι} {a : Addr} {φ : Obj → Prop}, mkW c.L m c.cs cm P (over2 Sc Sc' S) t = some (a, φ) →
        (mkW c.L m c.cs cm P S t = some (a, φ) ∧ (∀ l, t = .lab l → Sc l = none)) ∨ (∃ l, t = .lab l ∧ Sc' l = some (a, φ)) := by
      intro t a φ e
      cases t with
      | loc => exact .inl ⟨e, fun l q => by cases q⟩
      | cel x => exact .inl ⟨e, fun l q => by cases q⟩
      | pin k => exact .inl ⟨e, fun l q => by cases q⟩
      | lab l =>
        have e' : over2 Sc Sc' S l = some (a, φ) := e
        unfold over2 at e'
        cases hq' : Sc' l with
        | some p' => rw [hq'] at e'; exact .inr ⟨l, rfl, by rw [hq']; exact e'⟩
        | none =>
          rw [hq'] at e'
          cases hq : Sc l with
          | none =>
            rw [hq] at e'
            exact .inl ⟨e', fun l' q => by cases q; exact hq⟩
          | some q => rw [hq] at e'; cases e'
    refine ⟨⟨⟨fun a o e => hc.sub.get a o (cg.get a o e)⟩, hc.gens.trans X.chg.gens, hc.drawn.trans X.chg.drawn, hc.os.trans X.chg.os⟩, ⟨fun t a φ e => ?_, fun t t' a φ φ' e e' => ?_⟩⟩
    · rcases shape e with ⟨h1, h2⟩ | ⟨l, rfl, h1⟩
      · obtain ⟨h3, o, ho, hφ⟩ := inG h1 h2
        exact ⟨h3, o, hc.sub.get _ _ ho, hφ⟩
      · obtain ⟨h2, h3⟩ := hl.has l a φ h1
        exact ⟨cg.none h3, h2⟩
    · rcases shape e with ⟨h1, h2⟩ | ⟨l, rfl, h1⟩ <;> rcases shape e' with ⟨h1', h2'⟩ | ⟨l', rfl, h1'⟩
      · exact X.own.inj t t' a φ φ' h1 h1'
      · obtain ⟨_, o, ho, _⟩ := inG h1 h2
        rw [(hl.has l' a φ' h1').2] at ho; cases ho
      · obtain ⟨_, o, ho, _⟩ := inG h1' h2'
        rw [(hl.has l a φ h1).2] at ho; cases ho
      · rw [hl.inj l l' a φ φ' h1 h1']

theorem pairwise_inj {cs : List (Str × Addr)} (h : cs.Pairwise fun x y => x.2 ≠ y.2) : ∀ {x y : Str} {a : Addr}, (x, a) ∈ cs → (y, a) ∈ cs → x = y := by
  induction h with
  | nil => intro x y a h; cases h
  | @cons p r h1 _ ih =>
    intro x y a hx hy
    rcases List.mem_cons.mp hx with e1 | hx <;> rcases List.mem_cons.mp hy with e2 | hy
    · rw [← e1] at e2; exact (Prod.mk.inj e2).1.symm
    · have := h1 _ hy; rw [← e1] at this; exact absurd rfl this
    · have := h1 _ hx; rw [← e2] at this; exact absurd rfl this
    · exact ih hx hy

/-- a frame with cells begins -/
theorem St.ofCells {g : Heap} {L : Addr} {mL mC : Str → Option Value} {cs : List (Str × Addr)} {s₀ : Shared} (X : InCallC s₀ L mL cs mC s) (hg : Sub g s₀.heap) (hS : Led g s₀.heap S) (hm : ∀ x v, m.lookup x = some v → mL x = some v)
    (hc : ∀ x v, cm.lookup x = some v → mC x = some v) : St ⟨g, L, cs, s₀⟩ [] m cm S s := by
  obtain ⟨h', tk, rfl, keep⟩ := X.done
  have old : ∀ {a : Addr} {o : Obj}, s₀.heap.get? a = some o → a < s₀.heap.objs.size := fun e => Heap.lt_size e
  have fresh : ∀ {a : Addr}, s₀.heap.objs.size ≤ a → g.get? a = none := fun {a} ha => by
    cases q : g.get? a with
    | none => rfl
    | some o => exact absurd (old (hg.get _ _ q)) (Nat.not_lt.mpr ha)
  have hL := X.toInCall.fresh
  have ab : ∀ {x : Str} {a : Addr}, cs.lookup x = some a → L < a := fun e => X.above _ _ (mem_of_lookup e)
  refine ⟨⟨⟨fun a o e => keep a o (hg.get a o e)⟩, .refl _, rfl, rfl⟩, ⟨fun t a φ e => ?_, fun t t' a φ φ' e e' => ?_⟩⟩
  · cases t with
    | loc =>
      cases e
      obtain ⟨o, es, ep, ho, hd, hk, hf⟩ := X.toInCall.ns
      exact ⟨fresh hL, o, ho, es, ep, hd, hk, fun x v q => by rw [hf x]; exact hm x v q⟩
    | cel x =>
      obtain ⟨b, ea, eb⟩ := Option.map_eq_some_iff.mp e
      cases eb
      obtain ⟨o, ho, hd⟩ := X.cell x _ ea
      exact ⟨fresh (Nat.le_trans hL (Nat.le_of_lt (ab ea))), o, ho, mC x, hd, fun u q => hc x u q⟩
    | pin k => cases e
    | lab l =>
      obtain ⟨⟨o, ho, hφ⟩, hn⟩ := hS.has l a φ e
      exact ⟨hn, o, keep _ _ ho, hφ⟩
  · have low : ∀ {l : ι} {b : Addr} {ψ : Obj → Prop}, S l = some (b, ψ) → b < s₀.heap.objs.size := fun e => by obtain ⟨⟨o, ho, _⟩, _⟩ := hS.has _ _ _ e; exact old ho
    cases t with
    | loc =>
      cases e
      cases t' with
      | loc => rfl
      | cel x => obtain ⟨b, ea, eb⟩ := Option.map_eq_some_iff.mp e'; cases eb; exact absurd (ab ea) (Nat.lt_irrefl _)
      | pin k => cases e'
      | lab l => exact absurd (low e') (Nat.not_lt.mpr hL)
    | cel x =>
      obtain ⟨b, ea, eb⟩ := Option.map_eq_some_iff.mp e
      cases eb
      cases t' with
      | loc => cases e'; exact absurd (ab ea) (Nat.lt_irrefl _)
      | cel y =>
        obtain ⟨b', ea', eb'⟩ := Option.map_eq_some_iff.mp e'
        cases eb'
        rw [pairwise_inj X.apart (mem_of_lookup ea) (mem_of_lookup ea')]
      | pin k => cases e'
      | lab l => exact absurd (low e') (Nat.not_lt.mpr (Nat.le_trans hL (Nat.le_of_lt (ab ea))))
    | pin k => cases e
    | lab l =>
      cases t' with
      | loc => cases e'; exact absurd (low e) (Nat.not_lt.mpr hL)
      | cel x => obtain ⟨b, ea, eb⟩ := Option.map_eq_some_iff.mp e'; cases eb; exact absurd (low e) (Nat.not_lt.mpr (Nat.le_trans hL (Nat.le_of_lt (ab ea))))
      | pin k => cases e'
      | lab l' => rw [hS.inj l l' _ _ _ e e']
end

section
variable {w : World} {A : Around} {s : Shared} {ι : Type}
/-- a function with cells is entered -/
theorem r_enterCell {f : Addr} {g : Heap} {oc : Value} {od an : Option Addr} {osl : Array (Option Value)} {name qual : Str} {params : Arguments} {body : List Stmt} {scope : Scope} {dV kV doc pm cdv ct : Value} {args : List Value} {binds : List (Str × Value)} {S : Sto ι}
    {m cm : Loc} {Q : Value → Shared → Prop} (ho : (Kf w).lookup f = some ⟨oc, od, .func (fnOf name qual params body scope dV kV doc pm an cdv ct), osl⟩)
    (hA : A.depth < recursionLimit) (hg : Sub g s.heap) (T : Stat w g) (hcd : codeIn (Kf w) cdv qual = true)
    (hbind : bindArgs (fnOf name qual params body scope dV kV doc pm an cdv ct) ⟨args, []⟩ = pure binds)
    (hkind : ∀ L : Addr, ∀ x ∈ binds, scope.names.lookup x.1 = some .local ∨ (scope.names.lookup x.1 = some .cell ∧ ((cellsFrom (L + 1) scope.names []).lookup x.1).isSome = true)) (hS : Led g s.heap S)
    (hm : ∀ L x v, m.lookup x = some v → bindL (envX qual scope L f cdv (cellsFrom (L + 1) scope.names [])).kindOf binds (fun _ => none) x = some v)
    (hc : ∀ L x v, cm.lookup x = some v → bindC (envX qual scope L f cdv (cellsFrom (L + 1) scope.names [])).kindOf binds (fun _ => none) x = some v)
    (h : ∀ L s₁, St ⟨g, L, cellsFrom (L + 1) scope.names [], s⟩ [] m cm S s₁ →
      WA w (A.deeper (envX qual scope L f cdv (cellsFrom (L + 1) scope.names []))) (execs body (envX qual scope L f cdv (cellsFrom (L + 1) scope.names []))) (fun fl s' => Q (retOf fl) s') s₁)
    (hco : scope.isCoroutine = false := by rfl) (hgen : scope.isGenerator = false := by rfl) (hk : scope.kind = .function := by rfl) :
    codeAny (model Pr w) A (.call (.ref f) ⟨args, []⟩) (Rv Q) s := by
  have X := T.mono hg.get
  refine codeAny_call_cells (fd := fnOf name qual params body scope dV kV doc pm an cdv ct) (body := body) (binds := binds) hA (X.K _ _ ho) rfl X.nolimit (codeRec_of X.K hcd) rfl hbind rfl (hkind _) (fun s₁ Y => ?_) hco hgen hk
  exact wpAny_mono (h _ s₁ (St.ofCells Y hg hS (hm _) (hc _))) (fun fl s' z => by cases fl <;> exact z) fun _ _ z => z.elim
end
end Mine
end

section
open PySem PySem.W PySem.Calls PyProof.Rows
namespace Mine

def okT (n : Nat) : KasT (Array Nat) → Bool
  | .ret a => (a.toList.isPerm (List.range n))
  | .ask i j k => decide (i < n) && decide (j < n) && okT n (k true) && okT n (k false)
theorem ok3 : okT 3 (kas_sort 3) = true := by decide +kernel
theorem ok4 : okT 4 (kas_sort 4) = true := by decide +kernel
theorem ok5 : okT 5 (kas_sort 5) = true := by decide +kernel
theorem ok6 : okT 6 (kas_sort 6) = true := by decide +kernel
theorem okN {n : Nat} (h1 : 3 ≤ n) (h2 : n ≤ 6) : okT n (kas_sort n) = true := by
  rcases (show n = 3 ∨ n = 4 ∨ n = 5 ∨ n = 6 by omega) with rfl | rfl | rfl | rfl
  · exact ok3
  · exact ok4
  · exact ok5
  · exact ok6

end Mine
end

section
open PySem PySem.W PySem.Calls PyProof.Rows
namespace Mine

theorem kas_all {n : Nat} {cmp : Nat → Nat → (Bool → Shared → Prop) → Shared → Prop} {I : Shared → Prop} {Q : Array Nat → Shared → Prop}
    (hc : ∀ i j C s, i < n → j < n → I s → (∀ b s', I s' → C b s') → cmp i j C s) (hQ : ∀ (p : Array Nat) s', p.toList.Perm (List.range n) → I s' → Q p s') :
    ∀ (t : KasT (Array Nat)) (s : Shared), okT n t = true → I s → t.kasWp cmp Q s
  | .ret a, s, h, hi => hQ a s (List.isPerm_iff.mp h) hi
  | .ask i j k, s, h, hi => by
    simp only [okT, Bool.and_eq_true, decide_eq_true_eq] at h
    refine hc i j _ s h.1.1.1 h.1.1.2 hi fun b s' hi' => ?_
    cases b with
    | true => exact kas_all hc hQ (k true) s' h.1.2 hi'
    | false => exact kas_all hc hQ (k false) s' h.2 hi'

/-- a tuple of three ints -/
def Tup3 (x : Int) (o : Obj) : Prop := ∃ a b t u v, TupI [.int a t, .int b u, .int x v] o

section
variable {w : World} {A : Around} {s : Shared}

theorem lt3 {x y : Addr} {i j : Int} {Q : Bool → Shared → Prop} (hx : Has s.heap x (Tup3 i)) (hy : Has s.heap y (Tup3 j)) (h : ∀ b, Q b s) : WA w A (keyLt' (tuples' true) (.ref x) (.ref y)) Q s := by
  obtain ⟨ox, hx, a, b, t, u, v, n, rfl⟩ := hx
  obtain ⟨oy, hy, a', b', t', u', v', n', rfl⟩ := hy
  refine kat_lt hx rfl hy rfl ?_
  refine kat_cons (wpAny_eqBool_int (kat_go (fun _ => kat_yes ?_) fun _ => kat_no (oneLt_int (h _))))
  refine kat_cons (wpAny_eqBool_int (kat_go (fun _ => kat_yes ?_) fun _ => kat_no (kat_one _ _ (P.lt_int (h _)))))
  refine kat_cons (wpAny_eqBool_int (kat_go (fun _ => kat_yes ?_) fun _ => kat_no (kat_one _ _ (P.lt_int (h _)))))
  exact kat_nil (h _)

theorem kat_tups {h : Heap} : ∀ {ps : List (Addr × Int)}, (∀ p ∈ ps, Has h p.1 (Tup3 p.2)) → ∃ fs : List Value, KatTups h (ps.map fun p => .ref p.1) fs ∧ fs.length = ps.length ∧ ∀ v ∈ fs, ∃ i t, v = .int i t
  | [], _ => ⟨[], trivial, rfl, by simp⟩
  | p :: ps, hp => by
    obtain ⟨fs, h1, h2, h3⟩ := kat_tups fun q hq => hp q (List.mem_cons_of_mem _ hq)
    obtain ⟨o, ho, a, b, t, u, v, n, rfl⟩ := hp p List.mem_cons_self
    refine ⟨.int a t :: fs, KatTups.cons (xs := #[.int a t, .int b u, .int p.2 v]) ho rfl rfl rfl h1, by simp [h2], fun q hq => ?_⟩
    rcases List.mem_cons.mp hq with rfl | hq
    · exact ⟨a, t, rfl⟩
    · exact h3 q hq

/-- sort of a list of triples: the same triples in some order -/
theorem b_sortT {l : Addr} {ps : List (Addr × Int)} {Q : Value → Shared → Prop} (T : Stat w s.heap) (hl : Has s.heap l (LstI (ps.map fun p => .ref p.1))) (hp : ∀ p ∈ ps, Has s.heap p.1 (Tup3 p.2)) (hne : ∀ p ∈ ps, p.1 ≠ l) (h1 : 3 ≤ ps.length) (h2 : ps.length ≤ 6)
    (h : ∀ h' tk (ps' : List (Addr × Int)), ps'.Perm ps → Has h' l (LstI (ps'.map fun p => .ref p.1)) → Ext l s.heap h' → Q .none { s with heap := h', toks := tk }) : WA w A (call (.builtin "list.sort") [.ref l]) Q s := by
  obtain ⟨n, ho⟩ := hl.out
  generalize hvs : (ps.map fun p => Value.ref p.1) = vs at ho
  have hlen : vs.length = ps.length := by rw [← hvs]; simp
  refine bm_call bmL_sort T ho rfl (by unfold argsOk; kernel_rfl) ?_
  have s1 := Heap.SameBut.update s.heap l (Obj.mapSeq fun _ => (#[] : Array Value))
  obtain ⟨e1, ho1⟩ : ∃ e1, (s.heap.update l (Obj.mapSeq fun _ => (#[] : Array Value))).get? l = some (seqObj "list" #[] e1) := ⟨_, get?_update_seq ho fun _ => #[]⟩
  rw [list_sort_plain]
  refine wpAny_bind (listItems_at ho rfl ?_)
  refine wpAny_bind (listUpdate_at ho rfl ?_ (by rw [List.size_toArray, sizeLine_eq]; omega) (Nat.zero_le _))
  refine wpAny_bind (seqEpoch_at ho1 rfl ?_)
  refine wpAny_bind (wpAny_newTuple ?_ (by show vs.length ≤ _; rw [sizeLine_eq]; omega))
  refine wpAny_bind (wpAny_newList ?_ (Nat.zero_le _))
  refine wpAny_holding ?_
  generalize hH : ((s.heap.update l (Obj.mapSeq fun _ => (#[] : Array Value))).push (seqObj "tuple" vs.toArray 0)).push (seqObj "list" #[] 0) = H
  have keep : ∀ b o, b ≠ l → s.heap.get? b = some o → H.get? b = some o := fun b o hb e => by
    rw [← hH]
    exact Heap.get?_push_of_some _ (Heap.get?_push_of_some _ (s1.extBut b o hb e))
  have hlH : H.get? l = some (seqObj "list" #[] e1) := by
    rw [← hH]
    exact Heap.get?_push_of_some _ (Heap.get?_push_of_some _ ho1)
  have hpH : ∀ p ∈ ps, Has H p.1 (Tup3 p.2) := fun p hpp => by
    obtain ⟨o, ho, hφ⟩ := hp p hpp
    exact ⟨o, keep _ _ (hne p hpp) ho, hφ⟩
  dsimp only
  have hn2 : ¬ vs.toArray.size < 2 := by rw [List.size_toArray]; omega
  rw [if_neg hn2, if_neg hn2]
  obtain ⟨fs, k1, k2, k3⟩ := kat_tups hpH
  rw [hvs] at k1
  refine wpAny_bind (kat_kind (T := .type "int") k1 (by omega) (fun v hv => ?_) (by simp) ?_)
  · obtain ⟨i, t, rfl⟩ := k3 v hv
    exact Looks.of_pure rfl
  have hk : (Value.type "int" != Value.type "tuple") = true := by decide
  rw [hk]
  have item : ∀ i, i < ps.length → ∃ p ∈ ps, vs.getD i Value.none = .ref p.1 := fun i hi => ⟨ps[i], List.getElem_mem hi, by rw [← hvs]; simp [hi]⟩
  have sorted := kas_all (n := ps.length) (cmp := kas_ask Pr w A.in1 (tuples' true) vs) (I := fun s' => ∃ tk, s' = { s with heap := H, toks := tk })
    (Q := fun p s' => p.toList.Perm (List.range ps.length) ∧ ∃ tk, s' = { s with heap := H, toks := tk }) (fun i j C s' hi hj hI hC => ?_) (fun p s' hpp hI => ⟨hpp, hI⟩) (kas_sort ps.length) { s with heap := H } (okN h1 h2) ⟨s.toks, rfl⟩
  · rw [← hlen] at sorted
    refine wpAny_bind (wpAny_mono (kat_run (Q := fun st' s' => ∃ p : Array Nat, p.size = vs.length ∧ arrOf st' = p.map (kas_item (vs.toArray.zip vs.toArray)) ∧ failedOf st' = none ∧ p.toList.Perm (List.range vs.length) ∧ ∃ tk, s' = { s with heap := H, toks := tk })
      rfl (by omega) (by omega) (fun p' st' s' a1 a2 a3 a4 => ⟨p', a1, a2, a3, a4.1, a4.2⟩) sorted) ?_ fun _ _ e => e)
    rintro ⟨⟨⟩, st'⟩ s' ⟨p, hps, har, hf, hperm, tk, rfl⟩
    dsimp only
    have hout := kat_snds rfl har
    have hsz : (List.toArray (p.toList.map fun i => vs.getD i Value.none)).size = vs.length := by rw [List.size_toArray, List.length_map, Array.length_toList, hps]
    rw [hout]
    have s2 := Heap.SameBut.update H l (Obj.mapSeq fun _ => List.toArray (p.toList.map fun i => vs.getD i Value.none))
    obtain ⟨c2, hc2⟩ : ∃ c2, (H.update l (Obj.mapSeq fun _ => List.toArray (p.toList.map fun i => vs.getD i Value.none))).get? l = some (seqObj "list" (List.toArray (p.toList.map fun i => vs.getD i Value.none)) c2) := ⟨_, get?_update_seq hlH fun _ => List.toArray (p.toList.map fun i => vs.getD i Value.none)⟩
    refine wpAny_bind (seqEpoch_at hlH rfl ?_)
    refine wpAny_bind (listUpdate_at hlH rfl ?_ (Nat.zero_le _) (Nat.le_trans (Nat.le_of_eq hsz) (by rw [sizeLine_eq]; omega)))
    rw [hf]
    simp only [bne_self_eq_false, Bool.false_eq_true, if_false]
    refine wpAny_pure (h _ tk (p.toList.map fun i => ps.getD i (0, 0)) ?_ ?_ fun b o hb e => s2.extBut b o hb (keep b o hb e))
    · have e1 : (List.range vs.length).map (fun i => ps.getD i (0, 0)) = ps := by
        rw [hlen]
        apply List.ext_getElem
        · simp
        · intro i hi1 hi2
          simp [hi2]
      have := hperm.map fun i => ps.getD i (0, 0)
      rwa [e1] at this
    · refine Has.seq (n := c2) ?_
      rw [hc2]
      congr 2
      simp only [List.map_map]
      have : (p.toList.map fun i => vs.getD i Value.none) = p.toList.map ((fun q : Addr × Int => Value.ref q.1) ∘ fun i => ps.getD i (0, 0)) := by
        refine List.map_congr_left fun i hi => ?_
        have hi' : i < vs.length := List.mem_range.mp (hperm.subset hi)
        have hi2 : i < ps.length := by omega
        rw [← hvs]
        simp [hi2]
      rw [this]
  · obtain ⟨tk, rfl⟩ := hI
    obtain ⟨p, hpp, e⟩ := item i hi
    obtain ⟨q, hq, e'⟩ := item j hj
    show wpAny (model Pr w) A.in1 (keyLt' (tuples' true) (vs.getD i Value.none) (vs.getD j Value.none)) C (fun _ _ => False) { s with heap := H, toks := tk }
    rw [e, e']
    exact lt3 (hpH p hpp) (hpH q hq) fun b => hC b _ ⟨tk, rfl⟩
end
end Mine
end

section
open PySem PySem.W PySem.Calls PyProof.Rows
namespace Mine

def Agr (a : List (Int × Int)) (σ : Nat → Int) : Prop := ∀ (k : Nat) (v : Int), a.lookup (k : Int) = some v → σ k = v
def In01 (n : Nat) (σ : Nat → Int) : Prop := ∀ k, k < n → σ k = 0 ∨ σ k = 1

structure Con where
  obj : Addr
  va : Addr
  vars : List Nat
  sat : (Nat → Int) → Prop

structure CEff (n : Nat) (c : Con) (a : List (Int × Int)) (Z Z' : DSt) (b : Bool) : Prop where
  eff : Eff n (fun y v => a.lookup (y : Int) = none ∧ ∀ σ, In01 n σ → c.sat σ → Agr a σ → σ y ≠ v) Z Z'
  fail : b = false → (∀ σ, In01 n σ → c.sat σ → ¬ Agr a σ) ∨ ∃ y, y < n ∧ a.lookup (y : Int) = none ∧ Z'.X y = []
  full : b = true → ∀ σ, Agr a σ → (∀ x ∈ c.vars, (a.lookup (x : Int)).isSome = true) → c.sat σ
  some : b = true → ∀ z, z < n → Z.X z ≠ [] → Z'.X z ≠ []

structure ConOk (w : World) (g : Heap) (D : Nat → DA) (n : Nat) (c : Con) : Prop where
  vs : Has g c.va (LstN (natsV c.vars))
  lt : ∀ x ∈ c.vars, x < n
  len : c.vars.length ≤ 100
  inst : ∃ C dx, g.get? c.obj = some (instObj C dx)
  call : ∀ {A : Around} {s : Shared} {g' : Heap} {Z : DSt} {dm as : Addr} {a : List (Int × Int)} {fcv : Value} {fb : Bool} {Q : Value → Shared → Prop}, Ok A 5 → Sub g' s.heap → Sub g g' → Stat w g' → CallIn w g' D n c.va dm as c.vars a fcv fb →
    Led g' s.heap (cS D n Z noS2) → ZOk n Z → (∀ s' b Z', Chg g' s s' → Led g' s'.heap (cS D n Z' noS2) → CEff n c a Z Z' b → Q (.bool b) s') →
    WA w A (call (.ref c.obj) [.ref c.va, .ref dm, .ref as, fcv]) Q s
theorem ConOk.mono {w : World} {g h : Heap} {D : Nat → DA} {n : Nat} {c : Con} (K : ConOk w g D n c) (k : Sub g h) : ConOk w h D n c :=
  ⟨K.vs.mono k, K.lt, K.len, let ⟨C, dx, e⟩ := K.inst; ⟨C, dx, k.get _ _ e⟩, fun hA h1 h2 => K.call hA h1 (k.trans h2)⟩

theorem Eff.mono {n : Nat} {bad bad' : Nat → Int → Prop} {Z Z' : DSt} (E : Eff n bad Z Z') (h : ∀ y v, y < n → bad y v → bad' y v) : Eff n bad' Z Z' :=
  ⟨E.T, fun x hx => let ⟨B, h1, h2, h3⟩ := E.dom x hx; ⟨B, h1, h2, fun v hv => h x v hx (h3 v hv)⟩⟩

section
variable {a : List (Int × Int)} {σ : Nat → Int}
theorem sum_ge (hA : Agr a σ) : ∀ vars : List Nat, (∀ x ∈ vars, 0 ≤ σ x) → asgSum a vars ≤ sumBy σ vars
  | [], _ => Int.le_refl _
  | x :: r, h => by
    have ih := sum_ge hA r fun y hy => h y (List.mem_cons_of_mem _ hy)
    have h0 := h x List.mem_cons_self
    simp only [asgSum, sumBy]
    cases q : a.lookup (x : Int) with
    | none => simp; omega
    | some v => have := hA x v q; simp; omega
theorem sum_ge_at (hA : Agr a σ) {y : Nat} (hy : a.lookup (y : Int) = none) : ∀ vars : List Nat, (∀ x ∈ vars, 0 ≤ σ x) → y ∈ vars → asgSum a vars + σ y ≤ sumBy σ vars
  | x :: r, h, hm => by
    have h0 := h x List.mem_cons_self
    have hr : ∀ y ∈ r, 0 ≤ σ y := fun y hy => h y (List.mem_cons_of_mem _ hy)
    simp only [asgSum, sumBy]
    by_cases e : y = x
    · subst e
      have := sum_ge hA r hr
      rw [hy]; simp; omega
    · have ih := sum_ge_at hA hy r hr (by rcases List.mem_cons.mp hm with h | h; exact absurd h e; exact h)
      cases q : a.lookup (x : Int) with
      | none => simp; omega
      | some v => have := hA x v q; simp; omega
theorem sum_eq (hA : Agr a σ) : ∀ vars : List Nat, (∀ x ∈ vars, (a.lookup (x : Int)).isSome = true) → sumBy σ vars = asgSum a vars
  | [], _ => rfl
  | x :: r, h => by
    have ih := sum_eq hA r fun y hy => h y (List.mem_cons_of_mem _ hy)
    simp only [asgSum, sumBy, ih]
    have h0 := h x List.mem_cons_self
    cases q : a.lookup (x : Int) with
    | none => rw [q] at h0; cases h0
    | some v => have := hA x v q; simp; omega

def ind (st : List Int) (σ : Nat → Int) (x : Nat) : Int := if st.any (· == σ x) = true then 1 else 0
theorem cnt_le {st : List Int} (hA : Agr a σ) : ∀ vars : List Nat, sumBy (ind st σ) vars ≤ fnd a st vars + mis a vars
  | [] => by simp [sumBy, fnd, mis]
  | x :: r => by
    have ih := cnt_le (st := st) hA r
    simp only [fnd, mis, sumBy] at ih ⊢
    have : ind st σ x ≤ fnd1 a st x + mis1 a x := by
      unfold ind fnd1 mis1
      cases q : a.lookup (x : Int) with
      | none => dsimp only; split <;> omega
      | some v => have := hA x v q; subst this; dsimp only; split <;> omega
    omega
theorem cnt_lt {st : List Int} (hA : Agr a σ) {y : Nat} (hy : a.lookup (y : Int) = none) (hv : st.any (· == σ y) = false) : ∀ vars : List Nat, y ∈ vars → sumBy (ind st σ) vars < fnd a st vars + mis a vars
  | x :: r, hm => by
    simp only [fnd, mis, sumBy]
    by_cases e : y = x
    · subst e
      have := cnt_le (st := st) hA r
      simp only [fnd, mis] at this
      have : ind st σ y = 0 := by unfold ind; rw [hv]; rfl
      have : fnd1 a st y = 0 := by unfold fnd1; rw [hy]
      have : mis1 a y = 1 := by unfold mis1; rw [hy]
      omega
    · have ih := cnt_lt hA hy hv r (by rcases List.mem_cons.mp hm with h | h; exact absurd h e; exact h)
      simp only [fnd, mis] at ih
      have : ind st σ x ≤ fnd1 a st x + mis1 a x := by
        unfold ind fnd1 mis1
        cases q : a.lookup (x : Int) with
        | none => dsimp only; split <;> omega
        | some v => have := hA x v q; subst this; dsimp only; split <;> omega
      omega
theorem cnt_eq {st : List Int} (hA : Agr a σ) : ∀ vars : List Nat, (∀ x ∈ vars, (a.lookup (x : Int)).isSome = true) → sumBy (ind st σ) vars = fnd a st vars ∧ mis a vars = 0
  | [], _ => ⟨rfl, rfl⟩
  | x :: r, h => by
    obtain ⟨i1, i2⟩ := cnt_eq (st := st) hA r fun y hy => h y (List.mem_cons_of_mem _ hy)
    have h0 := h x List.mem_cons_self
    simp only [fnd, mis, sumBy] at i1 i2 ⊢
    rw [i1, i2]
    cases q : a.lookup (x : Int) with
    | none => rw [q] at h0; cases h0
    | some v =>
      have := hA x v q
      subst this
      simp only [ind, fnd1, mis1, q]
      simp
end

section
variable {w : World} {g : Heap} {D : Nat → DA} {n : Nat}
theorem pos01 {n : Nat} {σ : Nat → Int} (h : In01 n σ) {vars : List Nat} (lt : ∀ x ∈ vars, x < n) : ∀ x ∈ vars, 0 ≤ σ x := fun x hx => by rcases h x (lt x hx) with e | e <;> omega

theorem maxsum_ok {x dx V : Addr} {vars : List Nat} {ms : Int} (gx : g.get? x = some (instObj 371 dx)) (gd : Has g dx (MsD w ms)) (vs : Has g V (LstN (natsV vars))) (lt : ∀ x ∈ vars, x < n) (len : vars.length ≤ 100) :
    ConOk w g D n ⟨x, V, vars, fun σ => sumBy σ vars ≤ ms⟩ := by
  refine ⟨vs, lt, len, ⟨371, dx, gx⟩, fun {A s g' Z dm as a fcv fb Q} hA h1 h2 T C L Zk h => ?_⟩
  obtain ⟨od, gd', hd⟩ := gd
  refine call_inst (T.mono h1.get) ((h2.trans h1).get _ _ gx) ((h2.trans h1).get _ _ gd') (f := 368) (by kernel_rfl) (by kernel_rfl) (by kernel_rfl) ?_
  refine maxsum_call hA h1 T (h2.get _ _ gx) ⟨od, h2.get _ _ gd', hd⟩ C L Zk fun s' b Z' c1 L' E hf ht => h s' b Z' c1 L' ⟨?_, ?_, ?_, ?_⟩
  · refine E.mono fun y v hy hb => ⟨hb.2.1, fun σ h01 hs hag e => ?_⟩
    have := sum_ge_at hag hb.2.1 vars (pos01 h01 lt) hb.1
    rw [e] at this
    have hs' : sumBy σ vars ≤ ms := hs
    have h3 : asgSum a vars + v > ms := hb.2.2
    omega
  · intro hb
    rcases hf hb with h1 | ⟨y, hy, h2, h3⟩
    · have h1 : asgSum a vars > ms := h1
      refine .inl fun σ h01 hs hag => ?_
      have := sum_ge hag vars (pos01 h01 lt)
      have hs' : sumBy σ vars ≤ ms := hs
      omega
    · exact .inr ⟨y, lt y hy, h2, h3⟩
  · intro hb σ hag hall
    show sumBy σ vars ≤ ms
    rw [sum_eq hag vars hall]
    exact (ht hb).1
  · exact fun hb => (ht hb).2

theorem someset_ok {x dx V st : Addr} {vars : List Nat} {sv : List Int} {nn : Int} (gx : g.get? x = some (instObj 399 dx)) (gd : Has g dx (SisD w st nn)) (gst : Has g st (LstN sv)) (vs : Has g V (LstN (natsV vars))) (lt : ∀ x ∈ vars, x < n) (len : vars.length ≤ 100) :
    ConOk w g D n ⟨x, V, vars, fun σ => nn ≤ sumBy (ind sv σ) vars⟩ := by
  refine ⟨vs, lt, len, ⟨399, dx, gx⟩, fun {A s g' Z dm as a fcv fb Q} hA h1 h2 T C L Zk h => ?_⟩
  obtain ⟨od, gd', hd⟩ := gd
  refine call_inst (T.mono h1.get) ((h2.trans h1).get _ _ gx) ((h2.trans h1).get _ _ gd') (f := 396) (by kernel_rfl) (by kernel_rfl) (by kernel_rfl) ?_
  refine someset_call hA h1 T (h2.get _ _ gx) ⟨od, h2.get _ _ gd', hd⟩ (gst.mono h2) C L Zk fun s' b Z' c1 L' E hf ht => h s' b Z' c1 L' ⟨?_, ?_, ?_, ?_⟩
  · refine E.mono fun y v hy hb => ⟨hb.2.1, fun σ h01 hs hag e => ?_⟩
    have := cnt_lt (st := sv) hag hb.2.1 (by rw [e]; exact hb.2.2.2) vars hb.1
    have hs' : nn ≤ sumBy (ind sv σ) vars := hs
    have h3 : nn - fnd a sv vars = mis a vars := hb.2.2.1
    omega
  · intro hb
    rcases hf hb with h1 | ⟨y, hy, h2, h3⟩
    · have h1 : fnd a sv vars + mis a vars < nn := h1
      refine .inl fun σ h01 hs hag => ?_
      have := cnt_le (st := sv) hag vars
      have hs' : nn ≤ sumBy (ind sv σ) vars := hs
      omega
    · exact .inr ⟨y, lt y hy, h2, h3⟩
  · intro hb σ hag hall
    show nn ≤ sumBy (ind sv σ) vars
    obtain ⟨e1, e2⟩ := cnt_eq (st := sv) hag vars hall
    have h3 : nn ≤ fnd a sv vars + mis a vars := (ht hb).1
    omega
  · exact fun hb => (ht hb).2
end
end Mine
end

section
open PySem PySem.W PySem.Calls PyProof.Rows
namespace Mine

structure Frm where
  x : Nat
  u : Int
  vals : List Int
  pd : List Nat
  ta : Addr
  va : Addr
  pa : Addr

/-- the assignments of a stack (its top first), in the dict's order -/
def asg (st : List Frm) : List (Int × Int) := st.reverse.map fun f => ((f.x : Int), f.u)
theorem asg_cons (f : Frm) (st : List Frm) : asg (f :: st) = asg st ++ [((f.x : Int), f.u)] := by simp [asg]
theorem lookup_append {a b : List (Int × Int)} {k : Int} : (a ++ b).lookup k = (a.lookup k).or (b.lookup k) := by
  induction a with
  | nil => rfl
  | cons p a ih =>
    obtain ⟨x, y⟩ := p
    rw [List.cons_append, List.lookup_cons, List.lookup_cons]
    cases k == x <;> simp [ih]
def Free (a : List (Int × Int)) (y : Nat) : Prop := a.lookup (y : Int) = none
theorem free_snoc {a : List (Int × Int)} {x y : Nat} {v : Int} : Free (a ++ [((x : Int), v)]) y ↔ Free a y ∧ y ≠ x := by
  unfold Free
  rw [lookup_append]
  cases h : a.lookup (y : Int) with
  | some u => simp
  | none =>
    simp only [Option.none_or, List.lookup_cons, List.lookup_nil]
    by_cases e : y = x
    · subst e; simp
    · have : ((y : Int) == (x : Int)) = false := by rw [beq_eq_false_iff_ne]; omega
      simp [this, e]
theorem agr_snoc {a : List (Int × Int)} {x : Nat} {v : Int} {σ : Nat → Int} (hx : Free a x) : Agr (a ++ [((x : Int), v)]) σ ↔ Agr a σ ∧ σ x = v := by
  constructor
  · intro h
    refine ⟨fun k u e => h k u (by rw [lookup_append, e]; rfl), h x v ?_⟩
    rw [lookup_append, hx]; simp
  · rintro ⟨h, hv⟩ k u e
    rw [lookup_append] at e
    cases q : a.lookup (k : Int) with
    | some u' => rw [q] at e; cases e; exact h k _ q
    | none =>
      rw [q] at e
      simp only [Option.none_or, List.lookup_cons, List.lookup_nil] at e
      by_cases ek : k = x
      · subst ek; simp at e; omega
      · have : ((k : Int) == (x : Int)) = false := by rw [beq_eq_false_iff_ne]; omega
        rw [this] at e; cases e

def Is01 (v : Int) : Prop := v = 0 ∨ v = 1
section
variable (n : Nat) (cs : List Con)
def Sol (σ : Nat → Int) : Prop := In01 n σ ∧ ∀ c ∈ cs, c.sat σ
def Dead (a : List (Int × Int)) (y : Nat) (v : Int) : Prop := ∀ σ, Sol n cs σ → Agr a σ → σ y ≠ v
def DeadAll (a : List (Int × Int)) : Prop := ∀ σ, Sol n cs σ → ¬ Agr a σ
structure Zinv (d : Nat) (Z : DSt) : Prop where
  perm : ∀ y, y < n → (Z.X y ++ Z.H y).Perm [0, 1]
  T : ∀ y, y < n → (Z.T y).length ≤ d
/-- half of it: the processed constraints are those of P -/
structure Half (P : Con → Prop) (a : List (Int × Int)) (Z : DSt) : Prop where
  dead : ∀ y, y < n → Free a y → ∀ v, Is01 v → v ∉ Z.X y → Dead n cs a y v
  some : ∀ y, y < n → Free a y → Z.X y ≠ []
  full : ∀ c, P c → (∀ x ∈ c.vars, (a.lookup (x : Int)).isSome = true) → ∀ σ, Agr a σ → c.sat σ
abbrev Inv (a : List (Int × Int)) (Z : DSt) : Prop := Half n cs (· ∈ cs) a Z
def Push (pd : List Nat) (Zp Z : DSt) : Prop := ∀ y, y < n → (y ∈ pd → ∃ B, Z.T y = Zp.T y ++ [((Zp.X y).length : Int)] ∧ Z.H y = Zp.H y ++ B ∧ (Z.X y ++ B).Perm (Zp.X y)) ∧
  (y ∉ pd → (Z.X y).Perm (Zp.X y) ∧ Z.H y = Zp.H y ∧ Z.T y = Zp.T y)
def Tried (a : List (Int × Int)) (x : Nat) (vs : List Int) : Prop := ∀ v, Is01 v → v ∈ vs ∨ Dead n cs a x v
def PdOk (a : List (Int × Int)) (x : Nat) (pd : List Nat) : Prop := pd.Nodup ∧ ∀ y, y ∈ pd ↔ y < n ∧ Free a y ∧ y ≠ x

def Good : List Frm → DSt → Prop
  | [], Z => Inv n cs [] Z ∧ Zinv n 0 Z
  | f :: st, Z => (∃ Zp, Good st Zp ∧ Push n f.pd Zp Z) ∧ Tried n cs (asg st) f.x (f.u :: f.vals) ∧ f.x < n ∧ Free (asg st) f.x ∧ PdOk n (asg st) f.x f.pd ∧ f.vals.length ≤ 1 ∧ Is01 f.u ∧ (∀ v ∈ f.vals, Is01 v) ∧ Inv n cs (asg (f :: st)) Z ∧ Zinv n (st.length + 1) Z
end

section
variable {n : Nat} {cs : List Con} {st : List Frm} {Z Z' Zp : DSt} {a : List (Int × Int)}

theorem Good.inv : ∀ {st : List Frm}, Good n cs st Z → Inv n cs (asg st) Z
  | [], h => h.1
  | _ :: _, h => h.2.2.2.2.2.2.2.2.1
theorem Good.zinv : ∀ {st : List Frm}, Good n cs st Z → Zinv n st.length Z
  | [], h => h.2
  | _ :: _, h => h.2.2.2.2.2.2.2.2.2

theorem perm01_nodup {l : List Int} (h : l.Perm [0, 1]) : l.Nodup := h.nodup_iff.mpr (by decide)
theorem Zinv.ok {d : Nat} (h : Zinv n d Z) : ZOk n Z := ⟨fun y hy => (List.nodup_append.mp (perm01_nodup (h.perm y hy))).1, fun y hy => by
  have := (h.perm y hy).length_eq
  rw [List.length_append] at this
  simp at this
  omega⟩
theorem Zinv.is01 {d : Nat} (h : Zinv n d Z) {y : Nat} (hy : y < n) {v : Int} (hv : v ∈ Z.X y) : Is01 v := by
  have := (h.perm y hy).subset (List.mem_append_left _ hv)
  simp at this
  exact this
theorem Zinv.len {d : Nat} (h : Zinv n d Z) {y : Nat} (hy : y < n) : (Z.X y).length + (Z.H y).length = 2 := by
  have := (h.perm y hy).length_eq
  rw [List.length_append] at this
  simpa using this

def Zeq (n : Nat) (Z Z' : DSt) : Prop := Push n [] Z Z'
theorem Half.perm {P : Con → Prop} (h : Half n cs P a Z) (e : ∀ y, y < n → (Z'.X y).Perm (Z.X y)) : Half n cs P a Z' :=
  ⟨fun y hy hf v hv hn => h.dead y hy hf v hv fun hm => hn ((e y hy).symm.subset hm), fun y hy hf q => h.some y hy hf (by have := e y hy; rw [q] at this; exact (List.nil_perm.mp this)), h.full⟩
theorem Zinv.perm' {d : Nat} (h : Zinv n d Z) (e : Push n [] Z Z') : Zinv n d Z' := by
  constructor
  · intro y hy
    obtain ⟨e1, e2, e3⟩ := (e y hy).2 (by simp)
    rw [e2]
    exact (e1.append_right _).trans (h.perm y hy)
  · intro y hy
    obtain ⟨e1, e2, e3⟩ := (e y hy).2 (by simp)
    rw [e3]; exact h.T y hy
theorem Good.perm : ∀ {st : List Frm}, Good n cs st Z → Push n [] Z Z' → Good n cs st Z'
  | [], h, e => ⟨h.1.perm fun y hy => ((e y hy).2 (by simp)).1, h.2.perm' e⟩
  | f :: st, h, e => by
    obtain ⟨⟨Zp, g, p⟩, h2, h3, h4, h5, h6, h7, h8, h9, h10⟩ := h
    refine ⟨⟨Zp, g, fun y hy => ?_⟩, h2, h3, h4, h5, h6, h7, h8, h9.perm fun y hy => ((e y hy).2 (by simp)).1, h10.perm' e⟩
    obtain ⟨e1, e2, e3⟩ := (e y hy).2 (by simp)
    constructor
    · intro hm
      obtain ⟨B, b1, b2, b3⟩ := (p y hy).1 hm
      exact ⟨B, by rw [e3, b1], by rw [e2, b2], (e1.append_right _).trans b3⟩
    · intro hm
      obtain ⟨b1, b2, b3⟩ := (p y hy).2 hm
      exact ⟨e1.trans b1, by rw [e2, b2], by rw [e3, b3]⟩

theorem Push.refl : Push n [] Z Z := fun y hy => ⟨by simp, fun _ => ⟨.refl _, rfl, rfl⟩⟩
/-- one more is pushed -/
theorem Push.push {pd : List Nat} (h : Push n pd Zp Z) {y : Nat} (hy : y < n) (hn : y ∉ pd) : Push n (pd ++ [y]) Zp (setX Z y (Z.X y) (Z.H y) (Z.T y ++ [((Z.X y).length : Int)])) := by
  intro z hz
  by_cases e : z = y
  · subst e
    obtain ⟨b1, b2, b3⟩ := (h z hz).2 hn
    refine ⟨fun _ => ⟨[], ?_, ?_, ?_⟩, fun q => absurd (List.mem_append_right _ (List.mem_singleton.mpr rfl)) q⟩
    · simp [setX, b3, b1.length_eq]
    · simp [setX, b2]
    · simpa [setX] using b1
  · have : (setX Z y (Z.X y) (Z.H y) (Z.T y ++ [((Z.X y).length : Int)])).X z = Z.X z ∧ (setX Z y (Z.X y) (Z.H y) (Z.T y ++ [((Z.X y).length : Int)])).H z = Z.H z ∧ (setX Z y (Z.X y) (Z.H y) (Z.T y ++ [((Z.X y).length : Int)])).T z = Z.T z := by simp [setX, e]
    obtain ⟨x1, x2, x3⟩ := this
    rw [x1, x2, x3]
    refine ⟨fun q => (h z hz).1 ?_, fun q => (h z hz).2 fun r => q (List.mem_append_left _ r)⟩
    rcases List.mem_append.mp q with q | q
    · exact q
    · exact absurd (List.mem_singleton.mp q) e
/-- one is popped -/
theorem Push.pop {rest : List Nat} {y : Nat} (h : Push n (y :: rest) Zp Z) (hy : y < n) (hn : y ∉ rest) : ∃ hs back ts, Z.T y = ts ++ [(((Z.X y).length + back.length : Nat) : Int)] ∧ Z.H y = hs ++ back ∧ Push n rest Zp (setX Z y (Z.X y ++ back) hs ts) := by
  obtain ⟨B, b1, b2, b3⟩ := (h y hy).1 List.mem_cons_self
  refine ⟨Zp.H y, B, Zp.T y, ?_, b2, fun z hz => ?_⟩
  · rw [b1, ← b3.length_eq, List.length_append]
  · by_cases e : z = y
    · subst e
      refine ⟨fun q => absurd q hn, fun _ => ?_⟩
      simp only [setX, if_true]
      exact ⟨b3, trivial, trivial⟩
    · have : (setX Z y (Z.X y ++ B) (Zp.H y) (Zp.T y)).X z = Z.X z ∧ (setX Z y (Z.X y ++ B) (Zp.H y) (Zp.T y)).H z = Z.H z ∧ (setX Z y (Z.X y ++ B) (Zp.H y) (Zp.T y)).T z = Z.T z := by simp [setX, e]
      obtain ⟨x1, x2, x3⟩ := this
      rw [x1, x2, x3]
      exact ⟨fun q => (h z hz).1 (List.mem_cons_of_mem _ q), fun q => (h z hz).2 fun r => (List.mem_cons.mp r).elim e q⟩
theorem Push.eff {pd : List Nat} {bad : Nat → Int → Prop} (h : Push n pd Zp Z) (E : Eff n bad Z Z') (hb : ∀ y v, y < n → bad y v → y ∈ pd) : Push n pd Zp Z' := by
  intro y hy
  obtain ⟨C, c1, c2, c3⟩ := E.dom y hy
  have hT : Z'.T y = Z.T y := by rw [E.T]
  constructor
  · intro hm
    obtain ⟨B, b1, b2, b3⟩ := (h y hy).1 hm
    refine ⟨B ++ C, by rw [hT, b1], by rw [c1, b2, List.append_assoc], ?_⟩
    refine List.Perm.trans ?_ b3
    refine List.Perm.trans (List.Perm.append_left _ List.perm_append_comm) ?_
    rw [← List.append_assoc]
    exact c2.append_right _
  · intro hm
    obtain ⟨b1, b2, b3⟩ := (h y hy).2 hm
    have hC : C = [] := by
      cases C with
      | nil => rfl
      | cons v r => exact absurd (hb y v hy (c3 v List.mem_cons_self)) hm
    subst hC
    simp at c1 c2
    exact ⟨c2.trans b1, by rw [c1, b2], by rw [hT, b3]⟩
theorem Zinv.eff {d : Nat} {bad : Nat → Int → Prop} (h : Zinv n d Z) (E : Eff n bad Z Z') : Zinv n d Z' := by
  constructor
  · intro y hy
    obtain ⟨C, c1, c2, c3⟩ := E.dom y hy
    rw [c1]
    refine List.Perm.trans (List.Perm.append_left _ List.perm_append_comm) ?_
    rw [← List.append_assoc]
    exact (c2.append_right _).trans (h.perm y hy)
  · intro y hy
    rw [E.T]; exact h.T y hy
theorem Zinv.push {d : Nat} {pd : List Nat} (h : Zinv n d Zp) (P : Push n pd Zp Z) : Zinv n (d + 1) Z := by
  constructor
  · intro y hy
    by_cases q : y ∈ pd
    · obtain ⟨B, b1, b2, b3⟩ := (P y hy).1 q
      rw [b2]
      refine List.Perm.trans (List.Perm.append_left _ List.perm_append_comm) ?_
      rw [← List.append_assoc]
      exact (b3.append_right _).trans (h.perm y hy)
    · obtain ⟨b1, b2, b3⟩ := (P y hy).2 q
      rw [b2]
      exact (b1.append_right _).trans (h.perm y hy)
  · intro y hy
    have := h.T y hy
    by_cases q : y ∈ pd
    · obtain ⟨B, b1, b2, b3⟩ := (P y hy).1 q
      rw [b1, List.length_append]; simp; omega
    · obtain ⟨b1, b2, b3⟩ := (P y hy).2 q
      rw [b3]; omega

-- the steps of the search
theorem Good.choose (h : Good n cs st Z) {x : Nat} (hx : x < n) (hf : Free (asg st) x) : Tried n cs (asg st) x (Z.X x) ∧ Z.X x ≠ [] ∧ (∀ v ∈ Z.X x, Is01 v) ∧ (Z.X x).length ≤ 2 := by
  refine ⟨fun v hv => ?_, h.inv.some x hx hf, fun v hv => h.zinv.is01 hx hv, by have := h.zinv.len hx; omega⟩
  by_cases q : v ∈ Z.X x
  · exact .inl q
  · exact .inr (h.inv.dead x hx hf v hv q)

/-- a value is tried: the domains pushed -/
theorem Half.start {P : Con → Prop} {x : Nat} {v : Int} (h : Half n cs P a Zp) (hf : Free a x) (e : ∀ y, y < n → (Z.X y).Perm (Zp.X y)) : Half n cs (fun _ => False) (a ++ [((x : Int), v)]) Z := by
  refine ⟨fun y hy hfy u hu hn σ hs hag => ?_, fun y hy hfy q => ?_, fun c hc => hc.elim⟩
  · have hfy' := (free_snoc.mp hfy).1
    exact h.dead y hy hfy' u hu (fun hm => hn ((e y hy).symm.subset hm)) σ hs ((agr_snoc hf).mp hag).1
  · have hfy' := (free_snoc.mp hfy).1
    exact h.some y hy hfy' (by have := e y hy; rw [q] at this; exact List.nil_perm.mp this)
theorem Half.con {P : Con → Prop} {c : Con} {Z Z' : DSt} {b : Bool} (h : Half n cs P a Z) (hc : c ∈ cs) (E : CEff n c a Z Z' b) (hb : b = true) : Half n cs (fun c' => P c' ∨ c' = c) a Z' := by
  refine ⟨fun y hy hf v hv hn σ hs hag => ?_, fun y hy hf => E.some hb y hy (h.some y hy hf), fun c' hc' hall σ hag => ?_⟩
  · obtain ⟨B, b1, b2, b3⟩ := E.eff.dom y hy
    by_cases q : v ∈ Z.X y
    · rcases List.mem_append.mp (b2.symm.subset q) with q | q
      · exact absurd q hn
      · exact (b3 v q).2 σ hs.1 (hs.2 c hc) hag
    · exact h.dead y hy hf v hv q σ hs hag
  · rcases hc' with hc' | rfl
    · exact h.full c' hc' hall σ hag
    · exact E.full hb σ hag hall
theorem Half.fail {P : Con → Prop} {c : Con} {Z Z' : DSt} {b : Bool} (h : Half n cs P a Z) (hc : c ∈ cs) (E : CEff n c a Z Z' b) (hb : b = false) : DeadAll n cs a := by
  intro σ hs hag
  rcases E.fail hb with hv | ⟨y, hy, hf, hX⟩
  · exact hv σ hs.1 (hs.2 c hc) hag
  · obtain ⟨B, b1, b2, b3⟩ := E.eff.dom y hy
    have h01 : Is01 (σ y) := hs.1 y hy
    by_cases q : σ y ∈ Z.X y
    · rw [hX, List.nil_append] at b2
      exact (b3 _ (b2.symm.subset q)).2 σ hs.1 (hs.2 c hc) hag rfl
    · exact h.dead y hy hf _ h01 q σ hs hag rfl
theorem Tried.fail {x : Nat} {vs : List Int} {v : Int} (h : Tried n cs a x (vs ++ [v])) (hf : Free a x) (hd : DeadAll n cs (a ++ [((x : Int), v)])) : Tried n cs a x vs := by
  intro u hu
  rcases h u hu with q | q
  · rcases List.mem_append.mp q with q | q
    · exact .inl q
    · rw [List.mem_singleton] at q
      subst q
      exact .inr fun σ hs hag e => hd σ hs ((agr_snoc hf).mpr ⟨hag, e⟩)
  · exact .inr q
theorem Tried.none {x : Nat} (hx : x < n) (h : Tried n cs a x []) : DeadAll n cs a := by
  intro σ hs hag
  rcases h (σ x) (hs.1 x hx) with q | q
  · cases q
  · exact q σ hs hag rfl
/-- back to the frame below -/
theorem Tried.back {x : Nat} {u : Int} {vs : List Int} (h : Tried n cs a x (u :: vs)) (hf : Free a x) (hd : DeadAll n cs (a ++ [((x : Int), u)])) : Tried n cs a x vs := by
  intro v hv
  rcases h v hv with q | q
  · rcases List.mem_cons.mp q with rfl | q
    · exact .inr fun σ hs hag e => hd σ hs ((agr_snoc hf).mpr ⟨hag, e⟩)
    · exact .inl q
  · exact .inr q
theorem good_push {f : Frm} (h : Good n cs st Zp) (hP : Push n f.pd Zp Z) (hT : Tried n cs (asg st) f.x (f.vals ++ [f.u])) (hx : f.x < n) (hf : Free (asg st) f.x) (hpd : PdOk n (asg st) f.x f.pd) (hl : f.vals.length ≤ 1) (hu : Is01 f.u) (hv : ∀ v ∈ f.vals, Is01 v)
    (hH : Half n cs (fun c => c ∈ cs ∧ f.x ∈ c.vars) (asg st ++ [((f.x : Int), f.u)]) Z) : Good n cs (f :: st) Z := by
  refine ⟨⟨Zp, h, hP⟩, fun v h01 => ?_, hx, hf, hpd, hl, hu, hv, ?_, h.zinv.push hP⟩
  · rcases hT v h01 with q | q
    · refine .inl ?_
      rcases List.mem_append.mp q with q | q
      · exact List.mem_cons_of_mem _ q
      · rw [List.mem_singleton.mp q]; exact List.mem_cons_self
    · exact .inr q
  · rw [asg_cons]
    refine ⟨hH.dead, hH.some, fun c hc hall σ hag => ?_⟩
    by_cases q : f.x ∈ c.vars
    · exact hH.full c ⟨hc, q⟩ hall σ hag
    · refine h.inv.full c hc (fun x hxc => ?_) σ ((agr_snoc hf).mp hag).1
      have := hall x hxc
      cases hl : (asg st).lookup (x : Int) with
      | some u => rfl
      | none =>
        have hne : x ≠ f.x := fun e => q (e ▸ hxc)
        have : Free (asg st ++ [((f.x : Int), f.u)]) x := free_snoc.mpr ⟨hl, hne⟩
        rw [this] at *
        rename_i z; cases z
theorem Good.done (h : Good n cs st Z) (hall : ∀ x, x < n → ¬ Free (asg st) x) (lt : ∀ c ∈ cs, ∀ x ∈ c.vars, x < n) : Sol n cs fun k => ((asg st).lookup (k : Int)).getD 0 := by
  have hag : Agr (asg st) fun k => ((asg st).lookup (k : Int)).getD 0 := fun k v e => by simp [e]
  have h01 : ∀ {st : List Frm} {Z : DSt}, Good n cs st Z → ∀ (k : Nat) v, (asg st).lookup (k : Int) = some v → Is01 v := by
    intro st
    induction st with
    | nil => intro Z _ k v e; cases e
    | cons f st ih =>
      intro Z h k v e
      obtain ⟨⟨Zp, g, p⟩, h2, h3, h4, h5, h6, h7, h8, h9, h10⟩ := h
      rw [asg_cons, lookup_append] at e
      cases q : (asg st).lookup (k : Int) with
      | some u => rw [q] at e; cases e; exact ih g k _ q
      | none =>
        rw [q] at e
        simp only [Option.none_or, List.lookup_cons, List.lookup_nil] at e
        split at e
        · cases e; exact h7
        · cases e
  refine ⟨fun k hk => ?_, fun c hc => h.inv.full c hc (fun x hx => ?_) _ hag⟩
  · have := hall k hk
    cases q : (asg st).lookup (k : Int) with
    | none => exact absurd q this
    | some v =>
      have e : ((asg st).lookup (k : Int)).getD 0 = v := by rw [q]; rfl
      have := h01 h k v q
      rw [← e] at this
      exact this
  · have := hall x (lt c hc x hx)
    cases q : (asg st).lookup (x : Int) with
    | none => exact absurd q this
    | some v => rfl
end
end Mine
end

section
open PySem PySem.W PySem.Calls PyProof.Rows
namespace Mine

/-- a function's body, its environment, as the heap part holds them -/
noncomputable def fnBody (w : World) (a : Addr) : List Stmt := match (Kf w).lookup a with
  | some ⟨_, _, .func fd, _⟩ => (match fd.body with | .stmts b => b | _ => [])
  | _ => []
noncomputable def fnEnv (w : World) (a L : Addr) (cells : List (Str × Addr)) : Env := match (Kf w).lookup a with
  | some ⟨_, _, .func fd, _⟩ => envX fd.qualname fd.scope L a fd.code cells
  | _ => default
def nthS (b : List Stmt) (i : Nat) : Stmt := b.getD i (.Pass default)
def bodyOf : Stmt → List Stmt
  | .While _ b _ _ => b
  | .For _ _ b _ _ => b
  | .If _ b _ _ => b
  | _ => []

section
variable {A : Around} {k : Nat} {env e2 : Env} {K K2 : Flow → Sem Fin} {H H2 : Value → Sem Fin} {p p2 : Pos} {b b1 b2 : List Stmt} {t : Expr} {o o2 : List Stmt} {it : Value} {tg : Expr}
theorem okOver0 (h : Ok A (k + 1)) : Ok (A.over (.func b env) []) k := ⟨h.hd, by have := h.dep; show A.depth + 0 + 1 + k < _; omega, by have := h.un; show A.units + 0 + 3 + 20 * k < _; omega⟩
theorem okOver1 (h : Ok A (k + 1)) : Ok (A.over (.whileLoop t b1 o env) [ownF K H id id env (.func b env) p]) k := ⟨h.hd, by have := h.dep; show A.depth + 1 + 0 + k < _; omega, by have := h.un; show A.units + 3 + 0 + 20 * k < _; omega⟩
theorem okOver2 (h : Ok A (k + 1)) : Ok (A.over (.forLoop tg it b2 o2 env) [ownF K H id id env (.whileLoop t b1 o env) p, ownF K2 H2 id id env (.func b env) p2]) k :=
  ⟨h.hd, by have := h.dep; show A.depth + 1 + 0 + k < _; omega, by have := h.un; show A.units + (0 + (3 + 0)) + 0 + 20 * k < _; omega⟩
theorem okOver3 (h : Ok A (k + 1)) : Ok (A.over (.block b2 env) [ownF K H id id env (.whileLoop t b1 o env) p, ownF K2 H2 id id env (.func b env) p2]) k :=
  ⟨h.hd, by have := h.dep; show A.depth + 1 + 0 + k < _; omega, by have := h.un; show A.units + (0 + (3 + 0)) + 0 + 20 * k < _; omega⟩
end

/-- a frame's tuple in the queue -/
def QTup (f : Frm) (o : Obj) : Prop := ∃ t, TupI [.int (f.x : Int) t, .ref f.va, .ref f.pa] o
abbrev pdV (D : Nat → DA) (pd : List Nat) : List Value := pd.map fun y => Value.ref (D y).d
/-- the generator's own objects: the assignments, the queue, the frames' tuples (tl), the frames' lists (al) -/
def genE (w : World) (D : Nat → DA) (aa : Addr) (a : List (Int × Int)) (qa : Addr) (tl al : List Frm) : Sto Lab := fun l => match l.1 with
  | 3 => if l.2 = 0 then some (aa, DicN w a) else none
  | 4 => if l.2 = 0 then some (qa, LstI (tl.map fun f => Value.ref f.ta)) else none
  | 5 => (tl[l.2]?).map fun f => (f.ta, QTup f)
  | 6 => (al[l.2]?).map fun f => (f.va, LstN f.vals)
  | 7 => (al[l.2]?).map fun f => (f.pa, LstI (pdV D f.pd))
  | _ => none

/-- what the search finds -/
structure SolvIn (w : World) (g : Heap) (D : Nat → DA) (n : Nat) (cs : List Con) (dm vc : Addr) (vl : Nat → Addr) (vcs : Nat → List (Addr × Con)) : Prop where
  B : DomB w g D n
  dom : Has g dm (DicK w (domKv D n))
  sys : (dm == sysModules) = false
  vcd : Has g vc (DicK w ((List.range n).map fun (i : Nat) => ((i : Int), Value.ref (vl i))))
  vlist : ∀ x, x < n → Has g (vl x) (LstI ((vcs x).map fun p => Value.ref p.1))
  vlen : ∀ x, x < n → (vcs x).length ≤ 500
  vtup : ∀ x, x < n → ∀ p ∈ vcs x, Has g p.1 (TupI [.ref p.2.obj, .ref p.2.va])
  con : ∀ c ∈ cs, ConOk w g D n c
  inn : ∀ x, x < n → ∀ p ∈ vcs x, p.2 ∈ cs
  cover : ∀ c ∈ cs, ∀ x ∈ c.vars, ∃ ta, (ta, c) ∈ vcs x
  n3 : 3 ≤ n
  n6 : n ≤ 6

def mu (n : Nat) : List Frm → Nat
  | [] => 0
  | f :: st => f.vals.length * 3 ^ (n - st.length) + mu n st

theorem Zinv.pop {n d : Nat} {Z : DSt} {y : Nat} {hs back ts : List Int} {v : Int} (h : Zinv n d Z) (hH : Z.H y = hs ++ back) (hT : Z.T y = ts ++ [v]) : Zinv n d (setX Z y (Z.X y ++ back) hs ts) := by
  constructor
  · intro z hz
    by_cases e : z = y
    · subst e
      simp only [setX, if_true]
      have := h.perm z hz
      rw [hH] at this
      refine List.Perm.trans ?_ this
      rw [List.append_assoc]
      exact List.Perm.append_left _ List.perm_append_comm
    · simp only [setX, if_neg e]; exact h.perm z hz
  · intro z hz
    by_cases e : z = y
    · subst e
      simp only [setX, if_true]
      have := h.T z hz
      rw [hT, List.length_append] at this
      omega
    · simp only [setX, if_neg e]; exact h.T z hz

theorem fi_pop {w : World} : findIn (Kf w) (.ref 264) "popState" = some (some (.ref 254)) := by kernel_rfl
theorem ty_pop {w : World} : typeIn (Kf w) (.ref 254) = some (.type "function") := by kernel_rfl
theorem kp_pop {w : World} : keepIn (Kf w) (.ref 254) = true := by kernel_rfl
theorem fi_push {w : World} : findIn (Kf w) (.ref 264) "pushState" = some (some (.ref 247)) := by kernel_rfl
theorem ty_push {w : World} : typeIn (Kf w) (.ref 247) = some (.type "function") := by kernel_rfl
theorem kp_push {w : World} : keepIn (Kf w) (.ref 247) = true := by kernel_rfl

theorem St.fit2 {ι : Type} {c : Cx} {P : List (Addr × (Obj → Prop))} {m m' cm cm' : Loc} {S : Sto ι} {s : Shared} (X : St c P m cm S s) (h : AllIn m m' := by repeat (first | exact AllIn.nil | refine AllIn.cons rfl ?_))
    (h2 : AllIn cm cm' := by repeat (first | exact AllIn.nil | refine AllIn.cons rfl ?_)) : St c P m' cm' S s :=
  X.weaken (lookup_of_all (allIn h)) (lookup_of_all (allIn h2)) fun l a φ' e => ⟨φ', e, fun _ q => q⟩

section
variable {w : World} {D : Nat → DA} {n : Nat} {c : Cx} {P : List (Addr × (Obj → Prop))} {m cm : Loc} {s : Shared} {Z : DSt} {aa qa : Addr} {a a' : List (Int × Int)} {tl al : List Frm}
theorem gen_a : cS D n Z (genE w D aa a qa tl al) (3, 0) = some (aa, DicN w a) := rfl
theorem gen_q : cS D n Z (genE w D aa a qa tl al) (4, 0) = some (qa, LstI (tl.map fun f => Value.ref f.ta)) := rfl
theorem gen_t {i : Nat} {f : Frm} (h : tl[i]? = some f) : cS D n Z (genE w D aa a qa tl al) (5, i) = some (f.ta, QTup f) := by show ((tl[i]?).map _) = _; rw [h]; rfl
theorem gen_v {i : Nat} {f : Frm} (h : al[i]? = some f) : cS D n Z (genE w D aa a qa tl al) (6, i) = some (f.va, LstN f.vals) := by show ((al[i]?).map _) = _; rw [h]; rfl
theorem gen_p {i : Nat} {f : Frm} (h : al[i]? = some f) : cS D n Z (genE w D aa a qa tl al) (7, i) = some (f.pa, LstI (pdV D f.pd)) := by show ((al[i]?).map _) = _; rw [h]; rfl

theorem gen_setA : ∀ l p, cS D n Z (genE w D aa a' qa tl al) l = some p → updS (cS D n Z (genE w D aa a qa tl al)) (3, 0) (aa, DicN w a') l = some p := by
  rintro ⟨k, i⟩ p e
  unfold updS
  by_cases h : (k, i) = (3, 0)
  · cases h; exact e
  · rw [if_neg h]
    match k, e with
    | 0, e => exact e
    | 1, e => exact e
    | 2, e => exact e
    | 3, e =>
      have h2 : ¬ i = 0 := fun q => h (by rw [q])
      have e' : (if i = 0 then some (aa, DicN w a') else none) = some p := e
      rw [if_neg h2] at e'; cases e'
    | 4, e => exact e
    | 5, e => exact e
    | 6, e => exact e
    | 7, e => exact e
    | k + 8, e => cases e
/-- the top list of values has changed -/
theorem gen_setV {f f' : Frm} (hv : f'.va = f.va) (hp : f'.pa = f.pa) (hd : f'.pd = f.pd) : ∀ l p, cS D n Z (genE w D aa a qa tl (al ++ [f'])) l = some p →
    updS (cS D n Z (genE w D aa a qa tl (al ++ [f]))) (6, al.length) (f.va, LstN f'.vals) l = some p := by
  rintro ⟨k, i⟩ p e
  unfold updS
  by_cases h : (k, i) = (6, al.length)
  · cases h
    have e' : ((al ++ [f'])[al.length]?).map (fun f => (f.va, LstN f.vals)) = some p := e
    rw [List.getElem?_append_right (Nat.le_refl _), Nat.sub_self] at e'
    rw [if_pos rfl, ← e', ← hv]; rfl
  · rw [if_neg h]
    match k, e with
    | 0, e => exact e
    | 1, e => exact e
    | 2, e => exact e
    | 3, e => exact e
    | 4, e => exact e
    | 5, e => exact e
    | 6, e =>
      have hi : i ≠ al.length := fun q => h (by rw [q])
      have e' : ((al ++ [f'])[i]?).map (fun f => (f.va, LstN f.vals)) = some p := e
      show ((al ++ [f])[i]?).map _ = _
      rcases Nat.lt_or_ge i al.length with q | q
      · rw [List.getElem?_append_left q] at e' ⊢; exact e'
      · rw [List.getElem?_eq_none (by simp; omega)] at e'; cases e'
    | 7, e =>
      have e' : ((al ++ [f'])[i]?).map (fun f => (f.pa, LstI (pdV D f.pd))) = some p := e
      show ((al ++ [f])[i]?).map _ = _
      rcases Nat.lt_or_ge i al.length with q | q
      · rw [List.getElem?_append_left q] at e' ⊢; exact e'
      · by_cases hi : i = al.length
        · subst hi
          rw [List.getElem?_append_right (Nat.le_refl _), Nat.sub_self] at e' ⊢
          rw [← e']; simp [hp, hd]
        · rw [List.getElem?_eq_none (by simp; omega)] at e'; cases e'
    | k + 8, e => cases e
/-- the queue's last is taken -/
theorem gen_pop {f : Frm} {tl' : List Frm} (htl : tl = tl' ++ [f]) : ∀ l p, cS D n Z (genE w D aa a qa tl' al) l = some p → updS (cS D n Z (genE w D aa a qa tl al)) (4, 0) (qa, LstI (tl'.map fun f => Value.ref f.ta)) l = some p := by
  rintro ⟨k, i⟩ p e
  unfold updS
  by_cases h : (k, i) = (4, 0)
  · cases h; exact e
  · rw [if_neg h]
    match k, e with
    | 0, e => exact e
    | 1, e => exact e
    | 2, e => exact e
    | 3, e => exact e
    | 4, e =>
      have h2 : ¬ i = 0 := fun q => h (by rw [q])
      have e' : (if i = 0 then some (qa, LstI (tl'.map fun f => Value.ref f.ta)) else none) = some p := e
      rw [if_neg h2] at e'; cases e'
    | 5, e =>
      have e' : (tl'[i]?).map (fun f => (f.ta, QTup f)) = some p := e
      show (tl[i]?).map _ = _
      obtain ⟨g, hg, hh⟩ := Option.map_eq_some_iff.mp e'
      rw [htl, List.getElem?_append_left (List.getElem?_eq_some_iff.mp hg).1, hg]
      simp [hh]
    | 6, e => exact e
    | 7, e => exact e
    | k + 8, e => cases e
theorem gen_al {al' : List Frm} (h : ∀ (i : Nat) (f : Frm), al'[i]? = some f → al[i]? = some f) : ∀ l p, cS D n Z (genE w D aa a qa tl al') l = some p → cS D n Z (genE w D aa a qa tl al) l = some p := by
  rintro ⟨k, i⟩ p e
  match k, e with
  | 0, e => exact e
  | 1, e => exact e
  | 2, e => exact e
  | 3, e => exact e
  | 4, e => exact e
  | 5, e => exact e
  | 6, e =>
    have e' : (al'[i]?).map (fun f => (f.va, LstN f.vals)) = some p := e
    obtain ⟨g, hg, hh⟩ := Option.map_eq_some_iff.mp e'
    show (al[i]?).map _ = _
    rw [h i g hg]; simp [hh]
  | 7, e =>
    have e' : (al'[i]?).map (fun f => (f.pa, LstI (pdV D f.pd))) = some p := e
    obtain ⟨g, hg, hh⟩ := Option.map_eq_some_iff.mp e'
    show (al[i]?).map _ = _
    rw [h i g hg]; simp [hh]
  | k + 8, e => cases e
/-- the new tuple is put on the queue -/
theorem gen_push {f : Frm} : ∀ l p, cS D n Z (genE w D aa a qa (tl ++ [f]) al) l = some p →
    updS (updS (cS D n Z (genE w D aa a qa tl al)) (5, tl.length) (f.ta, QTup f)) (4, 0) (qa, LstI ((tl ++ [f]).map fun f => Value.ref f.ta)) l = some p := by
  rintro ⟨k, i⟩ p e
  unfold updS
  by_cases h : (k, i) = (4, 0)
  · cases h; exact e
  · rw [if_neg h]
    match k, e with
    | 0, e => exact e
    | 1, e => exact e
    | 2, e => exact e
    | 3, e => exact e
    | 4, e =>
      have h2 : ¬ i = 0 := fun q => h (by rw [q])
      have e' : (if i = 0 then some (qa, LstI ((tl ++ [f]).map fun f => Value.ref f.ta)) else none) = some p := e
      rw [if_neg h2] at e'; cases e'
    | 5, e =>
      have e' : ((tl ++ [f])[i]?).map (fun f => (f.ta, QTup f)) = some p := e
      by_cases hi : i = tl.length
      · subst hi
        rw [if_pos rfl]
        rw [List.getElem?_append_right (Nat.le_refl _), Nat.sub_self] at e'
        exact e'
      · rw [if_neg (by intro q; cases q; exact hi rfl)]
        rcases Nat.lt_or_ge i tl.length with q | q
        · rw [List.getElem?_append_left q] at e'; exact e'
        · rw [List.getElem?_eq_none (by simp; omega)] at e'; cases e'
    | 6, e => exact e
    | 7, e => exact e
    | k + 8, e => cases e
end
end Mine
end

section
open PySem PySem.W PySem.Calls PyProof.Rows
namespace Mine

section
variable {w : World} {A : Around} {s : Shared} {env : Env}
def KontJ (J : Shared → Prop) (Q : Flow → Shared → Prop) : Flow → Shared → Prop := fun f s' => match f with | .next => J s' | f => Q f s'
/-- an if-statement, its two ways meeting in J -/
theorem r_ifJ {test : Expr} {body orelse rest : List Stmt} {p : Pos} {Q : Flow → Shared → Prop} (J : Shared → Prop)
    (h : WA w A (isTrue test env (eval test env)) (fun b s₂ => if b = true then WA w A (execs body env) (KontJ J Q) s₂ else WA w A (execs orelse env) (KontJ J Q) s₂) s)
    (h2 : ∀ s, J s → WA w A (execs rest env) Q s) : WA w A (execs (.If test body orelse p :: rest) env) Q s := by
  have k : ∀ fl s', KontJ J Q fl s' → Kont w A env rest Q fl s' := fun fl s' z => by
    cases fl <;> first | exact h2 _ z | exact z
  refine r_if (WA.mono h fun b s₂ hb => ?_)
  cases b with
  | true => rw [if_pos rfl] at hb ⊢; exact WA.mono hb k
  | false => rw [if_neg (by decide)] at hb ⊢; exact WA.mono hb k
theorem t_call {f : Expr} {args : List Expr} {kw : List Keyword} {p : Pos} {Q : Bool → Shared → Prop} (h : WA w A (eval (.Call f args kw p) env) (fun v s₁ => WA w A (truthy v) Q s₁) s) :
    WA w A (isTrue (.Call f args kw p) env (eval (.Call f args kw p) env)) Q s := wpAny_isTrue_value h (by rfl)
theorem t_true {k : Nat} {p : Pos} {Q : Bool → Shared → Prop} (h : Q true s) : WA w A (isTrue (.Constant (.bool true) k p) env (eval (.Constant (.bool true) k p) env)) Q s := wpAny_isTrue_value (r_bool (tr_bool h)) (by rfl)
end
end Mine
end

section
open PySem PySem.W PySem.Calls PyProof.Rows
namespace Mine

theorem asg_free {st : List Frm} {y : Nat} : Free (asg st) y ↔ y ∉ st.map (·.x) := by
  induction st with
  | nil => simp [Free, asg]
  | cons f st ih =>
    rw [asg_cons, free_snoc, ih, List.map_cons, List.mem_cons, not_or]
    exact ⟨fun h => ⟨h.2, h.1⟩, fun h => ⟨h.2, h.1⟩⟩
section
variable {n : Nat} {cs : List Con}
theorem Good.nodup : ∀ {st : List Frm} {Z : DSt}, Good n cs st Z → (st.map (·.x)).Nodup ∧ ∀ x ∈ st.map (·.x), x < n
  | [], _, _ => ⟨by simp, by simp⟩
  | f :: st, Z, h => by
    obtain ⟨⟨Zp, g, p⟩, h2, h3, h4, h5, h6, h7, h8, h9, h10⟩ := h
    obtain ⟨i1, i2⟩ := Good.nodup g
    refine ⟨List.nodup_cons.mpr ⟨asg_free.mp h4, i1⟩, fun x hx => ?_⟩
    rcases List.mem_cons.mp hx with rfl | hx
    · exact h3
    · exact i2 x hx
theorem Good.lt {st : List Frm} {Z : DSt} (h : Good n cs st Z) {x : Nat} (hx : x < n) (hf : Free (asg st) x) : st.length < n := by
  obtain ⟨i1, i2⟩ := h.nodup
  have := List.Nodup.length_le_of_subset (l₁ := x :: st.map (·.x)) (l₂ := List.range n) (List.nodup_cons.mpr ⟨asg_free.mp hf, i1⟩) (fun y hy => by
    rw [List.mem_range]
    rcases List.mem_cons.mp hy with rfl | hy
    · exact hx
    · exact i2 y hy)
  have h2 : st.length + 1 ≤ n := by simpa using this
  exact h2
theorem pow3 {n d : Nat} (h : d < n) : 2 * 3 ^ (n - (d + 1)) + 1 ≤ 3 ^ (n - d) := by
  have e : n - d = (n - (d + 1)) + 1 := by omega
  rw [e, Nat.pow_succ]
  have : 1 ≤ 3 ^ (n - (d + 1)) := Nat.one_le_iff_ne_zero.mpr (by simp)
  omega

def mi (n : Nat) (st : List Frm) (vs : List Int) : Nat := mu n st + vs.length * 3 ^ (n - st.length)
def mo (n : Nat) (st : List Frm) : Nat := mu n st + (2 * 3 ^ (n - st.length) + 1)

/-- the search, a variable chosen -/
structure InnSt (n : Nat) (cs : List Con) (st : List Frm) (cur : Frm) (Z : DSt) (a : List (Int × Int)) : Prop where
  good : Good n cs st Z
  x : cur.x < n
  free : Free (asg st) cur.x
  pd : PdOk n (asg st) cur.x cur.pd
  tried : Tried n cs (asg st) cur.x cur.vals
  len : cur.vals.length ≤ 2
  is01 : ∀ v ∈ cur.vals, Is01 v
  a : (a = asg st ∧ cur.vals ≠ []) ∨ ∃ u, a = asg st ++ [((cur.x : Int), u)]
end

-- the assignments' dict
theorem kv_stored : ∀ {kvs a}, KvI kvs a → ∀ (k v : Int) (t : Tok), a.lookup k = none → KvI (stored kvs k (.int v t)) (a ++ [(k, v)])
  | kvs, a, h, k, v, t, hn => by
    have key : ∀ {kvs a}, KvI kvs a → a.lookup k = none → (kvs.any fun kv => decide (kv.1 = k)) = false ∧ KvI (kvs ++ [(k, .int v t)]) (a ++ [(k, v)]) := by
      intro kvs a h
      induction h with
      | nil => exact fun _ => ⟨rfl, .cons k v t .nil⟩
      | cons k' v' t' h ih =>
        intro hn
        rw [List.lookup_cons] at hn
        by_cases e : k = k'
        · subst e; simp at hn
        · have : (k == k') = false := by simp [e]
          rw [this] at hn
          obtain ⟨i1, i2⟩ := ih hn
          refine ⟨?_, .cons k' v' t' i2⟩
          rw [List.any_cons, i1]
          simp [Ne.symm e]
    obtain ⟨h1, h2⟩ := key h hn
    unfold stored
    rw [h1]
    exact h2
theorem kv_over : ∀ {kvs a}, KvI kvs (a ++ [(k, u)]) → ∀ (v : Int) (t : Tok), a.lookup k = none → KvI (stored kvs k (.int v t)) (a ++ [(k, v)]) := by
  intro kvs a h v t hn
  have key : ∀ {a kvs}, KvI kvs (a ++ [(k, u)]) → a.lookup k = none → (kvs.any fun kv => decide (kv.1 = k)) = true ∧ KvI (kvs.map fun kv => if kv.1 = k then (kv.1, Value.int v t) else kv) (a ++ [(k, v)]) := by
    intro a
    induction a with
    | nil =>
      intro kvs h _
      cases h with
      | cons k v' t' h => cases h; exact ⟨by simp, by simpa using KvI.cons _ v t .nil⟩
    | cons p a ih =>
      intro kvs h hn
      cases h with
      | cons k' v' t' h =>
        rw [List.lookup_cons] at hn
        by_cases e : k = k'
        · subst e; simp at hn
        · have : (k == k') = false := by simp [e]
          rw [this] at hn
          obtain ⟨i1, i2⟩ := ih h hn
          refine ⟨by rw [List.any_cons, i1, Bool.or_true], ?_⟩
          rw [List.map_cons, if_neg (fun q => e q.symm)]
          exact .cons k' v' t' i2
  obtain ⟨h1, h2⟩ := key h hn
  unfold stored
  rw [h1]
  exact h2
theorem kv_without : ∀ {a kvs}, KvI kvs (a ++ [(k, u)]) → a.lookup k = none → KvI (without kvs k) a := by
  intro a
  induction a with
  | nil =>
    intro kvs h _
    cases h with
    | cons k v' t' h => cases h; simpa [without] using KvI.nil
  | cons p a ih =>
    intro kvs h hn
    cases h with
    | cons k' v' t' h =>
      rw [List.lookup_cons] at hn
      by_cases e : k = k'
      · subst e; simp at hn
      · have : (k == k') = false := by simp [e]
        rw [this] at hn
        unfold without
        rw [List.filter_cons, if_pos (by simp [Ne.symm e])]
        exact .cons k' v' t' (ih h hn)
theorem kv_len : ∀ {kvs a}, KvI kvs a → kvs.length = a.length
  | _, _, .nil => rfl
  | _, _, .cons _ _ _ h => by simp [kv_len h]

section
variable {w : World} {A : Around} {s : Shared}
/-- a value is stored for x: new, or over the old one -/
theorem n_set {d : Addr} {a b : List (Int × Int)} {k v : Int} {t t' : Tok} {Q : Unit → Shared → Prop} (hm : Has s.heap d (DicN w b)) (hb : b = a ∨ ∃ u, b = a ++ [(k, u)]) (hn : a.lookup k = none) (hz : a.length ≤ 800)
    (h : ∀ h' tk, Has h' d (DicN w (a ++ [(k, v)])) → Heap.SameBut d s.heap h' → Q () { s with heap := h', toks := tk }) : WA w A (setItem (.ref d) (.int k t) (.int v t')) Q s := by
  obtain ⟨kvs, i, hm⟩ := hm.kv
  have hl := kv_len i
  refine d_set hm (by
    rcases hb with rfl | ⟨u, rfl⟩
    · omega
    · rw [List.length_append, List.length_singleton] at hl; omega) fun h' tk h1 h2 => h h' tk (h1.ofKv ?_) h2
  rcases hb with rfl | ⟨u, rfl⟩
  · exact kv_stored i k v t' hn
  · exact kv_over i v t' hn
theorem n_del {d : Addr} {a : List (Int × Int)} {k u : Int} {t : Tok} {Q : Unit → Shared → Prop} (hm : Has s.heap d (DicN w (a ++ [(k, u)]))) (hn : a.lookup k = none) (hz : a.length ≤ 800)
    (h : ∀ h' tk, Has h' d (DicN w a) → Heap.SameBut d s.heap h' → Q () { s with heap := h', toks := tk }) : WA w A (delItem (.ref d) (.int k t)) Q s := by
  obtain ⟨kvs, i, hm⟩ := hm.kv
  have hl := kv_len i
  refine d_del hm ?_ (by simp at hl; omega) fun h' tk h1 h2 => h h' tk (h1.ofKv (kv_without i hn)) h2
  rcases kv_at i k with ⟨_, h2⟩ | ⟨v, t, h1, _⟩
  · rw [lookup_append, hn] at h2; simp at h2
  · rw [h1]; rfl
/-- the last int of a list is taken -/
theorem n_pop {l : Addr} {ns : List Int} {k : Int} {Q : Value → Shared → Prop} (T : Stat w s.heap) (hl : Has s.heap l (LstN (ns ++ [k]))) (hz : ns.length ≤ 800)
    (h : ∀ h' t, Has h' l (LstN ns) → Heap.SameBut l s.heap h' → Q (.int k t) { s with heap := h' }) : WA w A (call (.builtin "list.pop") [.ref l]) Q s := by
  obtain ⟨vs, iv, hl⟩ := hl.ints
  obtain ⟨us, ws, rfl, iu, iw⟩ := ints_split _ _ iv
  cases iw with
  | cons _ tk iw =>
  cases iw
  have := ints_length iu
  exact b_pop T hl (by omega) fun h' h1 h2 => h h' tk (h1.ofInts iu) h2
end
end Mine
end

section
open PySem PySem.W PySem.Calls PyProof.Rows
namespace Mine

def OutSt (w : World) (D : Nat → DA) (n : Nat) (cs : List Con) (dm vc aa qa : Addr) (c : Cx) (st : List Frm) (Z : DSt) (s : Shared) : Prop :=
  Good n cs st Z ∧ St c [] (lo [("queue", .ref qa), ("forwardcheck", .bool true)]) (lo [("domains", .ref dm), ("vconstraints", .ref vc), ("assignments", .ref aa)]) (cS D n Z (genE w D aa (asg st) qa st.reverse st.reverse)) s
def InnPost (w : World) (D : Nat → DA) (n : Nat) (cs : List Con) (dm vc aa qa : Addr) (c : Cx) (k0 : Nat) : Flow → Shared → Prop := fun fl s' => match fl with
  | .next => ∃ st Z, OutSt w D n cs dm vc aa qa c st Z s' ∧ mo n st ≤ k0
  | .ret v => v = .none ∧ (∀ σ, ¬ Sol n cs σ) ∧ Chg c.g c.s0 s'
  | _ => False

/-- the loops' state, a variable chosen -/
def InnS (w : World) (D : Nat → DA) (n : Nat) (cs : List Con) (dm vc aa qa : Addr) (k : Nat) (m cm : Loc) (S : Sto Lab) : Prop :=
  ∃ st cur Z a t, InnSt n cs st cur Z a ∧ mi n st cur.vals = k ∧ m = lo [("values", .ref cur.va), ("pushdomains", .ref cur.pa), ("queue", .ref qa), ("forwardcheck", .bool true)] ∧
    cm = lo [("variable", .int (cur.x : Int) t), ("domains", .ref dm), ("vconstraints", .ref vc), ("assignments", .ref aa)] ∧ S = cS D n Z (genE w D aa a qa st.reverse (st.reverse ++ [cur]))

theorem rev_last {α : Type} (l : List α) (f : α) : (l ++ [f])[l.length]? = some f := by
  rw [List.getElem?_append_right (Nat.le_refl _), Nat.sub_self]; rfl
theorem init_get {α : Type} {l : List α} {f : α} {i : Nat} {x : α} (h : l[i]? = some x) : (l ++ [f])[i]? = some x := by
  rw [List.getElem?_append_left (List.getElem?_eq_some_iff.mp h).1, h]
theorem Half.weakP {n : Nat} {cs : List Con} {P P' : Con → Prop} {a : List (Int × Int)} {Z : DSt} (h : Half n cs P a Z) (k : ∀ c, P' c → P c) : Half n cs P' a Z := ⟨h.dead, h.some, fun c hc => h.full c (k c hc)⟩
theorem Good.len {n : Nat} {cs : List Con} {st : List Frm} {Z : DSt} (h : Good n cs st Z) : st.length ≤ n := by
  obtain ⟨i1, i2⟩ := h.nodup
  have := List.Nodup.length_le_of_subset (l₂ := List.range n) i1 (fun y hy => List.mem_range.mpr (i2 y hy))
  simpa using this
theorem asg_len (st : List Frm) : (asg st).length = st.length := by simp [asg]
theorem drop_at {α : Type} {l : List α} {i : Nat} {x : α} (h : l[i]? = some x) : l.drop i = x :: l.drop (i + 1) := by
  have hl := (List.getElem?_eq_some_iff.mp h).1
  rw [List.drop_eq_getElem_cons hl, (List.getElem?_eq_some_iff.mp h).2]
theorem nodup_drop {l : List Nat} (h : l.Nodup) {i : Nat} {x : Nat} (hx : l[i]? = some x) : x ∉ l.drop (i + 1) ∧ x ∉ l.take i := by
  have e : l = l.take i ++ x :: l.drop (i + 1) := by rw [← drop_at hx, List.take_append_drop]
  rw [e] at h
  have h2 := List.nodup_append.mp h
  refine ⟨(List.nodup_cons.mp h2.2.1).1, fun hm => h2.2.2 x hm x List.mem_cons_self rfl⟩
theorem gen_last {w : World} {D : Nat → DA} {n : Nat} {Z : DSt} {aa qa : Addr} {a : List (Int × Int)} {tl al : List Frm} {f f' : Frm} (hv : f'.va = f.va) (hp : f'.pa = f.pa) (hd : f'.pd = f.pd) (hl : f'.vals = f.vals) :
    ∀ l p, cS D n Z (genE w D aa a qa tl (al ++ [f'])) l = some p → cS D n Z (genE w D aa a qa tl (al ++ [f])) l = some p := by
  intro l p e
  have h := gen_setV hv hp hd l p e
  unfold updS at h
  split at h
  · rename_i q
    rw [q, gen_v (rev_last al f), ← hl]; exact h
  · exact h
theorem cs_sub {D : Nat → DA} {n : Nat} {Z : DSt} {E : Sto Lab} : ∀ l p, cS D n Z noS2 l = some p → cS D n Z E l = some p := by
  intro l p e
  unfold cS at e ⊢
  split at e
  · rename_i q; rw [if_pos q]; exact e
  · cases e
theorem cs_over {D : Nat → DA} {n : Nat} {Z Z' : DSt} {E : Sto Lab} : ∀ l p, cS D n Z' E l = some p → over2 (cS D n Z noS2) (cS D n Z' noS2) (cS D n Z E) l = some p := by
  intro l p e
  unfold over2
  unfold cS at e ⊢
  by_cases q : l.1 < 3
  · rw [if_pos q] at e ⊢
    rw [e]
  · rw [if_neg q] at e
    simp only [if_neg q]
    simpa using e
theorem m_listN {w : World} {A : Around} {s : Shared} {x : Addr} {xs : List Int} {name : Str} {id : String} {b : Builtin} {pl : Sem Bool} {Q : Value × List Value → Shared → Prop} (M : BM w (.type "list") name id b) (T : Stat w s.heap) (hx : Has s.heap x (LstN xs))
    (h : Q (.builtin id, [.ref x]) s) : WA w A (getMethod (.ref x) name pl) Q s := by
  obtain ⟨vs, iv, hx⟩ := hx.ints
  exact m_list M T hx h
theorem kvf_at (f : Nat → Addr) {n x : Nat} (hx : x < n) : valueAt ((List.range n).map fun (i : Nat) => ((i : Int), Value.ref (f i))) (x : Int) = some (.ref (f x)) := domKv_at (fun i => ⟨f i, 0, 0, 0⟩) hx
theorem map_get {α β : Type} {f : α → β} {l : List α} {i : Nat} {v : β} (h : (l.map f)[i]? = some v) : ∃ x, l[i]? = some x ∧ v = f x := by
  rw [List.getElem?_map] at h
  obtain ⟨x, h1, rfl⟩ := Option.map_eq_some_iff.mp h
  exact ⟨x, h1, rfl⟩

abbrev St.cx {ι : Type} {c : Cx} {P : List (Addr × (Obj → Prop))} {m cm : Loc} {S : Sto ι} {s : Shared} (_ : St c P m cm S s) : Cx := c
section
variable {w : World} {A : Around} {s : Shared} {g : Heap} {D : Nat → DA} {n : Nat} {cs : List Con} {dm vc aa qa : Addr} {vl : Nat → Addr} {vcs : Nat → List (Addr × Con)}

theorem inner_run {oc : Value} {od an : Option Addr} {osl : Array (Option Value)} {name qual : Str} {params : Arguments} {body : List Stmt} {scope : Scope} {dV kV doc pm cdv ct : Value} (ho : (Kf w).lookup 169 = some ⟨oc, od, .func (fnOf name qual params body scope dV kV doc pm an cdv ct), osl⟩)
    {L : Addr} {s₀ : Shared} (hA : Ok A 7) (T : Stat w g) (V : SolvIn w g D n cs dm vc vl vcs) (sysA : (aa == sysModules) = false) {k : Nat} {m cm : Loc} {S : Sto Lab} (hI : InnS w D n cs dm vc aa qa k m cm S)
    (X : St ⟨g, L, cellsFrom (L + 1) scope.names [], s₀⟩ [] m cm S s) :
    WA w A (execs ((bodyOf (nthS body 3)).drop 3) (envX qual scope L 169 cdv (cellsFrom (L + 1) scope.names []))) (InnPost w D n cs dm vc aa qa ⟨g, L, cellsFrom (L + 1) scope.names [], s₀⟩ k) s := by
  have h2 := ho.symm.trans (show (Kf w).lookup 169 = some _ from by exact rfl)
  cases h2
  refine r_while (fun j m cm S => j ≤ k ∧ InnS w D n cs dm vc aa qa j m cm S) k ⟨Nat.le_refl _, hI⟩ X fun k1 m cm S s hI S0 => ?_
  obtain ⟨hk1, st, cur, Z, a, tx, I, hmi, rfl, rfl, rfl⟩ := hI
  refine t_true ?_
  rw [if_pos rfl]
  have lastv : ∀ {l : List Frm} {cur : Frm}, (l ++ [cur])[l.length]? = some cur := rev_last _ _
  -- if not values: ..
  refine r_ifJ (fun s => ∃ st cur Z a t, InnSt n cs st cur Z a ∧ cur.vals ≠ [] ∧ mi n st cur.vals ≤ k1 ∧ St X.cx [] (lo [("values", .ref cur.va), ("pushdomains", .ref cur.pa), ("queue", .ref qa), ("forwardcheck", .bool true)])
    (lo [("variable", .int (cur.x : Int) t), ("domains", .ref dm), ("vconstraints", .ref vc), ("assignments", .ref aa)]) (cS D n Z (genE w D aa a qa st.reverse (st.reverse ++ [cur]))) s) ?_ ?_
  · refine t_not (t_name (r_local S0 rfl (truthN (S0.stat T) bmL__len__ nobool_list (S0.at (gen_v lastv)) (by have := I.len; omega) fun s' g' => ?_)))
    have S := S0.grow g'
    cases hv : cur.vals with
    | cons v0 r0 =>
      rw [if_neg (by simp)]
      exact r_nil ⟨st, cur, Z, a, tx, I, by rw [hv]; simp, by rw [hmi]; exact Nat.le_refl _, S⟩
    | nil =>
      rw [if_pos (by rfl)]
      obtain ⟨u, ha⟩ : ∃ u, a = asg st ++ [((cur.x : Int), u)] := by
        rcases I.a with ⟨_, h⟩ | h
        · exact absurd hv h
        · exact h
      subst ha
      have dead : DeadAll n cs (asg st) := Tried.none I.x (by have := I.tried; rwa [hv] at this)
      have hlen := I.good.len
      have hn6 := V.n6
      have hmu : mu n st ≤ k1 := by rw [hv] at hmi; simp only [mi, List.length_nil, Nat.zero_mul, Nat.add_zero] at hmi; omega
      refine r_delSub (r_cell S rfl (r_cell S rfl (n_del (S.at gen_a) I.free (by rw [asg_len]; omega) fun h' tk h1 h2 => ?_)))
      have S := ((S.set (l := (3, 0)) (t := tk) rfl h1 h2).sto gen_setA).sto (gen_al (al' := st.reverse) fun i f e => init_get e)
      refine r_while (fun j m cm S => ∃ st Z, j = st.length ∧ Good n cs st Z ∧ DeadAll n cs (asg st) ∧ mu n st ≤ k1 ∧ m = lo [("queue", .ref qa), ("forwardcheck", .bool true)] ∧ cm = lo [("domains", .ref dm), ("vconstraints", .ref vc), ("assignments", .ref aa)] ∧
        S = cS D n Z (genE w D aa (asg st) qa st.reverse st.reverse)) st.length ⟨st, Z, rfl, I.good, dead, hmu, rfl, rfl, rfl⟩ S.fit2 fun j m cm S1 s hI S => ?_
      obtain ⟨st, Z, rfl, G, dead, hmu, rfl, rfl, rfl⟩ := hI
      have hlen := G.len
      refine t_name (r_local S rfl (b_truth (S.stat T) bmL__len__ nobool_list (S.at gen_q) (by simp; omega) fun s' g' => ?_))
      have S := S.grow g'
      cases st with
      | nil =>
        rw [if_neg (by simp)]
        exact r_retNone ⟨rfl, fun σ hs => dead σ hs (fun _ _ e => by cases e), S.chg⟩
      | cons f st =>
        rw [if_pos (by simp)]
        obtain ⟨⟨Zp, G', hP⟩, hT, hx, hf, hpd, hlv, hu, h01, hinv, hz⟩ := G
        rw [List.reverse_cons] at S
        have hlen' : st.length ≤ 6 := by simp at hlen; omega
        refine r_assignTup (r_callMeth (r_local S rfl (m_list bmL_pop (S.stat T) (S.at gen_q) (r_cw0 (keeps_builtin _ _) (b_pop (xs := st.reverse.map fun f => Value.ref f.ta) (x := .ref f.ta) (S.stat T) (by have := S.at gen_q; rwa [List.map_append] at this) (by simp; omega) fun h' h1 h2 => ?_)))))
        have S2 := S.set (l := (4, 0)) (t := s'.toks) rfl h1 h2
        have hta : Has _ f.ta (QTup f) := S2.at (l := (5, st.reverse.length)) (by unfold updS; rw [if_neg (by simp)]; exact gen_t lastv)
        obtain ⟨oq, hoq, tq, htup⟩ := hta
        have S := S2.sto (gen_pop rfl)
        refine a_tup hA.hd ⟨oq, hoq, htup⟩ fun s2 g2 => ?_
        have S := S.grow g2
        refine ao_cons (a_name (r_storeCell S fun s3 S => ao_cons (a_name (r_store S fun s4 S => ao_cons (a_name (r_store S fun s5 S => ao_nil ?_))))))
        refine r_ifJ (fun s => ∃ Z', Good n cs st Z' ∧ St X.cx [] (lo [("values", .ref f.va), ("pushdomains", .ref f.pa), ("queue", .ref qa), ("forwardcheck", .bool true)])
          (lo [("variable", .int (f.x : Int) tq), ("domains", .ref dm), ("vconstraints", .ref vc), ("assignments", .ref aa)]) (cS D n Z' (genE w D aa (asg (f :: st)) qa st.reverse (st.reverse ++ [f]))) s) ?_ ?_
        · refine t_name (r_local S rfl (b_truth (S.stat T) bmL__len__ nobool_list (S.at (gen_p lastv)) (by simp; have := List.Nodup.length_le_of_subset (l₂ := List.range n) hpd.1 (fun y hy => List.mem_range.mpr ((hpd.2 y).mp hy).1); simp at this; omega) fun s' g' => ?_))
          have S := S.grow g'
          cases hpe : f.pd with
          | nil =>
            rw [if_neg (by simp)]
            exact r_nil ⟨Z, G'.perm (hpe ▸ hP), S.fit2⟩
          | cons y0 r0 =>
            rw [if_pos (by simp)]
            refine r_for (r_local S rfl (.mk (fun i m cm S => ∃ Z', m = lo [("values", .ref f.va), ("pushdomains", .ref f.pa), ("queue", .ref qa), ("forwardcheck", .bool true)] ∧
                cm = lo [("variable", .int (f.x : Int) tq), ("domains", .ref dm), ("vconstraints", .ref vc), ("assignments", .ref aa)] ∧ S = cS D n Z' (genE w D aa (asg (f :: st)) qa st.reverse (st.reverse ++ [f])) ∧
                Push n (f.pd.drop i) Zp Z' ∧ Zinv n (st.length + 1) Z')
              (itb_list hA.hd (S.at (gen_p lastv))) ⟨_, _, _, ⟨Z, rfl, rfl, rfl, hP, hz⟩, S.fit2⟩ (fun i P' m cm S s hi X => ?_) (fun i I ψ m cm S s v hi hv hval S => ?_) fun m cm S s hv S => ?_))
            · obtain ⟨Z', rfl, rfl, rfl, _⟩ := hi
              exact X.at (gen_p lastv)
            · obtain ⟨Z', rfl, rfl, rfl, hP', hz'⟩ := hv
              obtain ⟨y, hy, rfl⟩ := map_get hval
              have ym := List.mem_of_getElem? hy
              have yn := ((hpd.2 y).mp ym).1
              rw [drop_at hy] at hP'
              obtain ⟨hs, back, ts, e1, e2, hP2⟩ := hP'.pop yn (nodup_drop hpd.1 hy).1
              have hb1 := hz'.len yn
              have hb2 := hz'.T y yn
              refine a_name (r_store S fun s S => ?_)
              refine r_expr (r_callMeth (r_local S rfl (fnN_dom fi_pop ty_pop (S.stat T) (S.at (cs_d yn)) (S.baseH (V.B.dd y yn)) (fun q => by kernel_rfl) (r_cw0 (keeps_K (S.stat T).K kp_pop)
                (pop_in (hA.le (by decide)) S yn V.B T (by omega) (by omega) (by omega) e1 e2 rfl fun s' S => ?_)))))
              exact r_nil ⟨_, _, _, ⟨_, rfl, rfl, rfl, hP2, hz'.pop e2 e1⟩, S.fit2⟩
            · obtain ⟨Z', rfl, rfl, rfl, hP', hz'⟩ := hv
              rw [List.drop_of_length_le (by simp)] at hP'
              exact r_nil (k_next (r_nil ⟨Z', G'.perm hP', S⟩))
        · rintro s ⟨Z', G2, S⟩
          have tr : Tried n cs (asg st) f.x f.vals := hT.back hf (by rw [← asg_cons]; exact dead)
          refine r_if (t_name (r_local S rfl (truthN (S.stat T) bmL__len__ nobool_list (S.at (gen_v lastv)) (by omega) fun s' g' => ?_)))
          have S := S.grow g'
          cases hfv : f.vals with
          | cons v0 r0 =>
            rw [if_pos (by simp)]
            refine r_break (r_nil ⟨st, f, Z', asg (f :: st), tq, ⟨G2, hx, hf, hpd, tr, by omega, h01, .inr ⟨f.u, asg_cons f st⟩⟩, by rw [hfv]; simp, ?_, S⟩)
            simp only [mu] at hmu
            simp only [mi]
            omega
          | nil =>
            rw [if_neg (by simp)]
            refine r_nil (k_next ?_)
            rw [asg_cons] at S
            refine r_delSub (r_cell S rfl (r_cell S rfl (n_del (S.at gen_a) hf (by rw [asg_len]; omega) fun h' tk h1 h2 => ?_)))
            have S := ((S.set (l := (3, 0)) (t := tk) rfl h1 h2).sto gen_setA).sto (gen_al (al' := st.reverse) fun i f e => init_get e)
            refine r_nil ⟨st.length, _, _, _, Nat.lt_succ_self _, ⟨st, Z', rfl, G2, Tried.none hx (by rwa [hfv] at tr), ?_, rfl, rfl, rfl⟩, S.fit2⟩
            simp only [mu] at hmu
            omega
  · rintro s ⟨st, cur, Z, a, t, I, hne, hmi, S⟩
    have hlt := I.good.lt I.x I.free
    have hn6 := V.n6
    have hzl := I.good.zinv
    obtain ⟨vs', v, hvs⟩ : ∃ vs' v, cur.vals = vs' ++ [v] := ⟨cur.vals.dropLast, cur.vals.getLast hne, (List.dropLast_concat_getLast hne).symm⟩
    have hv01 : Is01 v := I.is01 v (by rw [hvs]; simp)
    have hl' : vs'.length ≤ 1 := by have := I.len; rw [hvs, List.length_append] at this; simp at this; omega
    have hpdl : cur.pd.length ≤ 6 := by
      have := List.Nodup.length_le_of_subset (l₂ := List.range n) I.pd.1 (fun y hy => List.mem_range.mpr ((I.pd.2 y).mp hy).1)
      simp at this; omega
    have gp : ∀ {Z : DSt} {a : List (Int × Int)}, cS D n Z (genE w D aa a qa st.reverse (st.reverse ++ [{ cur with u := v, vals := vs' }])) (7, st.reverse.length) = some (cur.pa, LstI (pdV D cur.pd)) := gen_p (f := { cur with u := v, vals := vs' }) (rev_last _ _)
    -- assignments[variable] = values.pop()
    refine r_assignSub (r_callMeth (r_local S rfl (m_listN bmL_pop (S.stat T) (S.at (gen_v lastv)) (r_cw0 (keeps_builtin _ _) (n_pop (ns := vs') (k := v) (S.stat T) (by have := S.at (gen_v (lastv (l := st.reverse) (cur := cur))); rwa [hvs] at this) (by omega) fun h' t2 h1 h2 => ?_)))))
    have S := (S.set (l := (6, st.reverse.length)) (t := s.toks) (gen_v lastv) h1 h2).sto (gen_setV (f' := { cur with u := v, vals := vs' }) rfl rfl rfl)
    refine r_cell S rfl (r_cell S rfl (n_set (a := asg st) (S.at gen_a) ?_ I.free (by rw [asg_len]; omega) fun h' tk h1 h2 => ?_))
    · rcases I.a with ⟨e, _⟩ | ⟨u, e⟩
      · exact .inl e
      · exact .inr ⟨u, e⟩
    have S := (S.set (l := (3, 0)) (t := tk) rfl h1 h2).sto gen_setA
    -- if pushdomains: ..
    refine r_ifJ (fun s => ∃ Z1, Push n cur.pd Z Z1 ∧ (∀ y, Z1.X y = Z.X y) ∧ St X.cx [] (lo [("values", .ref cur.va), ("pushdomains", .ref cur.pa), ("queue", .ref qa), ("forwardcheck", .bool true)])
      (lo [("variable", .int (cur.x : Int) t), ("domains", .ref dm), ("vconstraints", .ref vc), ("assignments", .ref aa)]) (cS D n Z1 (genE w D aa (asg st ++ [((cur.x : Int), v)]) qa st.reverse (st.reverse ++ [{ cur with u := v, vals := vs' }]))) s) ?_ ?_
    · refine t_name (r_local S rfl (b_truth (S.stat T) bmL__len__ nobool_list (S.at gp) (by simp; omega) fun s' g' => ?_))
      have S := S.grow g'
      by_cases hpe : cur.pd = []
      ·
        rw [if_neg (by simp [hpe])]
        exact r_nil ⟨Z, by rw [hpe]; exact Push.refl, fun _ => rfl, S.fit2⟩
      ·
        rw [if_pos (by simp [hpe])]
        refine r_for (r_local S rfl (.mk (fun i m cm S => ∃ Z1, m = lo [("values", .ref cur.va), ("pushdomains", .ref cur.pa), ("queue", .ref qa), ("forwardcheck", .bool true)] ∧
            cm = lo [("variable", .int (cur.x : Int) t), ("domains", .ref dm), ("vconstraints", .ref vc), ("assignments", .ref aa)] ∧
            S = cS D n Z1 (genE w D aa (asg st ++ [((cur.x : Int), v)]) qa st.reverse (st.reverse ++ [{ cur with u := v, vals := vs' }])) ∧ Push n (cur.pd.take i) Z Z1 ∧ ∀ y, Z1.X y = Z.X y)
          (itb_list hA.hd (S.at gp)) ⟨_, _, _, ⟨Z, rfl, rfl, rfl, Push.refl, fun _ => rfl⟩, S.fit2⟩ (fun i P' m cm S s hi X => ?_) (fun i I2 ψ m cm S s v2 hi hv hval S => ?_) fun m cm S s hv S => ?_))
        · obtain ⟨Z', rfl, rfl, rfl, _⟩ := hi
          exact X.at gp
        · obtain ⟨Z', rfl, rfl, rfl, hP', hX'⟩ := hv
          obtain ⟨y, hy, rfl⟩ := map_get hval
          have hy : cur.pd[i]? = some y := hy
          have ym := List.mem_of_getElem? hy
          have yn := ((I.pd.2 y).mp ym).1
          have hz' := hzl.push hP'
          have hb1 := hz'.len yn
          have hb2 := hz'.T y yn
          refine a_name (r_store S fun s S => ?_)
          refine r_expr (r_callMeth (r_local S rfl (fnN_dom fi_push ty_push (S.stat T) (S.at (cs_d yn)) (S.baseH (V.B.dd y yn)) (fun q => by kernel_rfl) (r_cw0 (keeps_K (S.stat T).K kp_push)
            (push_in (hA.le (by decide)) S yn V.B T (by omega) (by omega) fun s' S => ?_)))))
          refine r_nil ⟨_, _, _, ⟨_, rfl, rfl, rfl, ?_, fun z => ?_⟩, S.fit2⟩
          · rw [take_snoc hy]; exact hP'.push yn (nodup_drop I.pd.1 hy).2
          · rw [← hX' z]; unfold setX; dsimp only; split
            · rename_i q; rw [q]
            · rfl
        · obtain ⟨Z', rfl, rfl, rfl, hP', hX'⟩ := hv
          rw [List.take_of_length_le (by simp)] at hP'
          exact r_nil (k_next (r_nil ⟨Z', hP', hX', S⟩))
    · rintro s ⟨Z1, hP1, hX1, S⟩
      have hH0 : Half n cs (fun _ => False) (asg st ++ [((cur.x : Int), v)]) Z1 := I.good.inv.start I.free fun y _ => by rw [hX1 y]
      -- for constraint, variables in vconstraints[variable]: ..
      refine r_for (r_sub (r_cell S rfl (r_cell S rfl ⟨inPyDict (S.baseH V.vcd), d_get (S.baseH V.vcd) (kvf_at vl I.x) fun s' g' => ?_⟩)))
      have S := S.grow g'
      refine .mk (fun i m cm S => ∃ Z2, m = lo [("values", .ref cur.va), ("pushdomains", .ref cur.pa), ("queue", .ref qa), ("forwardcheck", .bool true)] ∧
          cm = lo [("variable", .int (cur.x : Int) t), ("domains", .ref dm), ("vconstraints", .ref vc), ("assignments", .ref aa)] ∧
          S = cS D n Z2 (genE w D aa (asg st ++ [((cur.x : Int), v)]) qa st.reverse (st.reverse ++ [{ cur with u := v, vals := vs' }])) ∧ Push n cur.pd Z Z2 ∧
          Half n cs (fun c' => ∃ p ∈ (vcs cur.x).take i, p.2 = c') (asg st ++ [((cur.x : Int), v)]) Z2)
        (itb_list hA.hd (S.baseH (V.vlist _ I.x))) ⟨_, _, _, ⟨Z1, rfl, rfl, rfl, hP1, hH0.weakP fun c ⟨p, hp, _⟩ => by cases hp⟩, S.fit2⟩ (fun i P' m cm S s hi X => X.baseH (V.vlist _ I.x)) (fun i I2 ψ m cm S s v2 hi hv hval S => ?_) fun m cm S s hv S => ?_
      · obtain ⟨Z2, rfl, rfl, rfl, hP2, hH⟩ := hv
        obtain ⟨p, hp, rfl⟩ := map_get hval
        have pm := List.mem_of_getElem? hp
        have hc := V.inn _ I.x p pm
        have K := V.con _ hc
        have hz2 := hzl.push hP2
        refine a_tup hA.hd (S.baseH (V.vtup _ I.x p pm)) fun s2 g2 => ?_
        have S := S.grow g2
        refine ao_cons (a_name (r_store S fun s3 S => ao_cons (a_name (r_store S fun s4 S => ao_nil ?_))))
        obtain ⟨Co, dx, hobj⟩ := K.inst
        refine r_if (t_not (t_call (r_callName (r_local S rfl (r_cw (args_cons (r_local S rfl (args_cons (r_cell S rfl (args_cons (r_cell S rfl (args_cons (r_local S rfl (args_nil ⟨keeps_plain (S.base hobj) rfl, ?_⟩))))))))))))))
        obtain ⟨g', g1, g2, L', oth, back⟩ := S.call2 (Sc := cS D n Z2 noS2) cs_sub
        refine K.call (hA.le (by decide)) g1 g2 (T.mono g2.get) ⟨V.B.mono g2, K.vs.mono g2, K.lt, K.len, V.dom.mono g2, oth (3, 0) _ _ gen_a rfl, sysA, .inr ⟨cur.pa, pdV D cur.pd, rfl, oth (7, st.reverse.length) _ _ gp rfl, by simp; omega, rfl⟩⟩
          L' hz2.ok fun s' b Z3 c1 L3 E => ?_
        have S := (back s' _ c1 L3).sto cs_over
        have hP3 : Push n cur.pd Z Z3 := hP2.eff E.eff fun y u hy hb => (I.pd.2 y).mpr ⟨hy, free_snoc.mp hb.1⟩
        refine tr_bool ?_
        cases b with
        | true =>
          rw [if_neg (by decide)]
          refine r_nil (k_next (r_nil ⟨_, _, _, ⟨Z3, rfl, rfl, rfl, hP3, (hH.con hc E rfl).weakP fun c' ⟨p', hp', e'⟩ => ?_⟩, S.fit2⟩))
          rw [take_snoc hp] at hp'
          rcases List.mem_append.mp hp' with h | h
          · exact .inl ⟨p', h, e'⟩
          · rw [List.mem_singleton.mp h] at e'; exact .inr e'.symm
        | false =>
          rw [if_pos (by decide)]
          have dead := hH.fail hc E rfl
          have tr : Tried n cs (asg st) cur.x vs' := Tried.fail (by have := I.tried; rwa [hvs] at this) I.free dead
          refine r_break ?_
          have S := S.unpin
          have fin : ∀ {Z'}, Good n cs st Z' → InnS w D n cs dm vc aa qa (mi n st vs') (lo [("values", .ref cur.va), ("pushdomains", .ref cur.pa), ("queue", .ref qa), ("forwardcheck", .bool true)])
              (lo [("variable", .int (cur.x : Int) t), ("domains", .ref dm), ("vconstraints", .ref vc), ("assignments", .ref aa)]) (cS D n Z' (genE w D aa (asg st ++ [((cur.x : Int), v)]) qa st.reverse (st.reverse ++ [{ cur with u := v, vals := vs' }]))) ∧ mi n st vs' < k1 := fun {Z'} hG => by
            refine ⟨⟨st, { cur with u := v, vals := vs' }, Z', _, t, ⟨hG, I.x, I.free, I.pd, tr, by show vs'.length ≤ 2; omega, fun u hu => I.is01 u (by rw [hvs]; exact List.mem_append_left _ hu), .inr ⟨v, rfl⟩⟩, rfl, rfl, rfl, rfl⟩, ?_⟩
            refine Nat.lt_of_lt_of_le ?_ hmi
            unfold mi
            rw [hvs, List.length_append, List.length_singleton, Nat.add_mul, Nat.one_mul]
            have : 1 ≤ 3 ^ (n - st.length) := Nat.one_le_iff_ne_zero.mpr (by simp)
            omega
          refine r_if (t_name (r_local S rfl (b_truth (S.stat T) bmL__len__ nobool_list (S.at gp) (by simp; omega) fun s' g' => ?_)))
          have S := S.grow g'
          by_cases hpe : cur.pd = []
          ·
            rw [if_neg (by simp [hpe])]
            obtain ⟨f1, f2⟩ := fin (I.good.perm (by rw [hpe] at hP3; exact hP3))
            exact r_nil (k_next (r_nil ⟨_, _, _, _, f2, ⟨by omega, f1⟩, S.fit2⟩))
          ·
            rw [if_pos (by simp [hpe])]
            refine r_for (r_local S rfl (.mk (fun i m cm S => ∃ Z', m = lo [("values", .ref cur.va), ("pushdomains", .ref cur.pa), ("queue", .ref qa), ("forwardcheck", .bool true)] ∧
                cm = lo [("variable", .int (cur.x : Int) t), ("domains", .ref dm), ("vconstraints", .ref vc), ("assignments", .ref aa)] ∧ S = cS D n Z' (genE w D aa (asg st ++ [((cur.x : Int), v)]) qa st.reverse (st.reverse ++ [{ cur with u := v, vals := vs' }])) ∧
                Push n (cur.pd.drop i) Z Z' ∧ Zinv n (st.length + 1) Z')
              (itb_list hA.hd (S.at gp)) ⟨_, _, _, ⟨Z3, rfl, rfl, rfl, hP3, hzl.push hP3⟩, S.fit2⟩ (fun i P' m cm S s hi X => ?_) (fun i I2 ψ m cm S s v hi hv hval S => ?_) fun m cm S s hv S => ?_))
            · obtain ⟨Z', rfl, rfl, rfl, _⟩ := hi
              exact X.at gp
            · obtain ⟨Z', rfl, rfl, rfl, hP', hz'⟩ := hv
              obtain ⟨y, hy, rfl⟩ := map_get hval
              have hy : cur.pd[i]? = some y := hy
              have ym := List.mem_of_getElem? hy
              have yn := ((I.pd.2 y).mp ym).1
              rw [drop_at hy] at hP'
              obtain ⟨hs, back, ts, e1, e2, hP4⟩ := hP'.pop yn (nodup_drop I.pd.1 hy).1
              have hb1 := hz'.len yn
              have hb2 := hz'.T y yn
              refine a_name (r_store S fun s S => ?_)
              refine r_expr (r_callMeth (r_local S rfl (fnN_dom fi_pop ty_pop (S.stat T) (S.at (cs_d yn)) (S.baseH (V.B.dd y yn)) (fun q => by kernel_rfl) (r_cw0 (keeps_K (S.stat T).K kp_pop)
                (pop_in (hA.le (by decide)) S yn V.B T (by omega) (by omega) (by omega) e1 e2 rfl fun s' S => ?_)))))
              exact r_nil ⟨_, _, _, ⟨_, rfl, rfl, rfl, hP4, hz'.pop e2 e1⟩, S.fit2⟩
            · obtain ⟨Z', rfl, rfl, rfl, hP', hz'⟩ := hv
              rw [List.drop_of_length_le (by simp)] at hP'
              obtain ⟨f1, f2⟩ := fin (I.good.perm hP')
              exact r_nil (k_next (r_nil (k_next (r_nil ⟨_, _, _, _, f2, ⟨by omega, f1⟩, S⟩))))
      · obtain ⟨Z2, rfl, rfl, rfl, hP2, hH⟩ := hv
        refine r_break ?_
        -- queue.append((variable, values, pushdomains))
        refine r_expr (r_callMeth (r_local S rfl (m_list bmL_append (S.stat T) (S.at gen_q) (r_cw (args_cons (r_tuple (args_cons (r_cell S rfl (args_cons (r_local S rfl (args_cons (r_local S rfl (args_nil ⟨by simp, fun ta s' g' hta htf => args_nil ⟨keeps_builtin _ _, ?_⟩⟩)))))))))))))
        have S1 := S.new g' (l := (5, st.reverse.length)) (φ := QTup { cur with u := v, vals := vs', ta := ta }) (let ⟨o, ho, hφ⟩ := hta; ⟨o, ho, t, hφ⟩) htf
        refine b_append (S1.stat T) (S1.at (l := (4, 0)) (by unfold updS; rw [if_neg (by simp)]; exact gen_q)) (by simp; omega) fun h' h1 h2 => ?_
        have S2 := S1.set (l := (4, 0)) (t := s'.toks) (by unfold updS; rw [if_neg (by simp)]; exact gen_q) h1 h2
        have S3 := (S2.sto (S' := cS D n Z2 (genE w D aa (asg st ++ [((cur.x : Int), v)]) qa (st.reverse ++ [{ cur with u := v, vals := vs', ta := ta }]) (st.reverse ++ [{ cur with u := v, vals := vs' }]))) (fun l p e => by
          have := gen_push l p e
          rwa [List.map_append] at this)).sto (gen_last (f' := { cur with u := v, vals := vs', ta := ta }) rfl rfl rfl rfl)
        refine r_nil ⟨{ cur with u := v, vals := vs', ta := ta } :: st, Z2, ⟨?_, ?_⟩, ?_⟩
        · refine good_push (f := { cur with u := v, vals := vs', ta := ta }) I.good hP2 (by have := I.tried; rwa [hvs] at this) I.x I.free I.pd hl' hv01 (fun u hu => I.is01 u (by rw [hvs]; exact List.mem_append_left _ hu)) (hH.weakP fun c ⟨h1, h2⟩ => ?_)
          obtain ⟨ta', hta'⟩ := V.cover c h1 _ h2
          rw [List.length_map, List.take_length]
          exact ⟨_, hta', rfl⟩
        · rw [asg_cons, List.reverse_cons]
          exact S3.fit2
        · refine Nat.le_trans ?_ (Nat.le_trans hmi hk1)
          unfold mo mi
          simp only [mu, List.length_cons]
          rw [hvs, List.length_append, List.length_singleton, Nat.add_mul, Nat.one_mul]
          have := pow3 hlt
          omega
end
end Mine
end

section
open PySem PySem.W PySem.Calls PyProof.Rows
namespace Mine

section
variable {w : World} {A : Around} {s : Shared} {env : Env}
theorem sub_dict {h : Heap} (X : (Kf w).In h) : Looks (model Pr w) h (isSubtype (.type "dict") (.type "dict")) true := Looks.of_pure (by rw [isSubtype_type]; kernel_rfl)
theorem bmDict_copy : BM w (.type "dict") "copy" "dict.copy" Builtin.«dict.copy» := ⟨by kernel_rfl, ⟨.type "method_descriptor", by kernel_rfl, by decide⟩, ⟨"dict", "copy", by decide +kernel, by decide +kernel, fun _ X => sub_dict X⟩, entryFor_of_tree (by kernel_rfl), by decide +kernel⟩
theorem bmDict_values : BM w (.type "dict") "values" "dict.values" Builtin.«dict.values» := ⟨by kernel_rfl, ⟨.type "method_descriptor", by kernel_rfl, by decide⟩, ⟨"dict", "values", by decide +kernel, by decide +kernel, fun _ X => sub_dict X⟩, entryFor_of_tree (by kernel_rfl), by decide +kernel⟩
theorem ga_dict : findIn (Kf w) (.type "dict") "__getattribute__" = some (some (.builtin "dict.__getattribute__")) := by kernel_rfl
theorem gh_dict : findIn (Kf w) (.type "dict") "__getattr__" = some none := by kernel_rfl
theorem can_dict : (Manifest.canonical "dict.__getattribute__" != "object.__getattribute__") = false := by decide +kernel

theorem m_dict {d : Addr} {kvs : List (Int × Value)} {name : Str} {id : String} {b : Builtin} {pl : Sem Bool} {Q : Value × List Value → Shared → Prop} (M : BM w (.type "dict") name id b) (T : Stat w s.heap) (hd : Has s.heap d (DicK w kvs))
    (h : Q (.builtin id, [.ref d]) s) : WA w A (getMethod (.ref d) name pl) Q s := by
  obtain ⟨o, ho, ep, hx, _⟩ := hd
  exact bm_method M T ho hx.1 ga_dict can_dict gh_dict (.inl hx.2.1) h
theorem d_copy {d : Addr} {kvs : List (Int × Value)} {Q : Value → Shared → Prop} (T : Stat w s.heap) (hs : (d == sysModules) = false) (hd : Has s.heap d (DicK w kvs)) (hz : kvs.length ≤ 900)
    (h : ∀ r s', Grow s s' → Has s'.heap r (DicK w kvs) → s.heap.get? r = none → (r == sysModules) = false → Q (.ref r) s') : WA w A (call (.builtin "dict.copy") [.ref d]) Q s := by
  obtain ⟨o, ho, ep, hx, _⟩ := id hd
  refine bm_call bmDict_copy T ho hx.1 (by unfold argsOk; kernel_rfl) ?_
  have g := meets_dict_copy (prog := Pr) (w := w) (KI w) d hs A (Rv Q) s ⟨kvs, hd.dictOf, by rw [sizeLine_eq]; omega, fun h' h1 _ h3 => ?_⟩
  · exact wpAny_mono g (fun fin s' z => by rcases fin with (_ | _ | _ | _) | _ <;> exact z) fun _ _ z => z
  · exact h s.heap.objs.size { s with heap := h' } ⟨⟨h3⟩, .refl _, rfl, rfl⟩ (Has.dictK h1) (Heap.get?_none_of_le (Nat.le_refl _)) (notSys T (Nat.le_refl _))

/-- a name that the comprehension has captured -/
theorem r_capt {ι : Type} {c : Cx} {P : List (Addr × (Obj → Prop))} {m cm : Loc} {S : Sto ι} {s₁ : Shared} {x : Str} {p : Pos} {a : Addr} {v : Value} {Q : Value → Shared → Prop} (X : St c P m cm S s₁) (k : Sub s₁.heap s.heap) (hv : cm.lookup x = some v) (h : Q v s)
    (hc : c.cs.lookup x = some a := by rfl) (ha : env.cells.lookup x = some a := by rfl) (hk : env.scope.kind = .function := by rfl) (hl : env.kindOf x = some .cell := by rfl) (hd : (x == ("__debug__" : Str)) = false := by decide) :
    WA w A (eval (.Name x p) env) Q s := by
  obtain ⟨o, ho, hq⟩ := X.cell hc hv
  exact wpAny_Name (wpAny_loadName_cell hk hl ha ⟨o, k.get _ _ ho, hq⟩ h) hd
end

section
variable {ι : Type} {c : Cx} {P : List (Addr × (Obj → Prop))} {m cm : Loc} {S : Sto ι} {s : Shared}
theorem St.setE [DecidableEq ι] (X : St c P m cm S s) {l : ι} {a : Addr} {φ φ' : Obj → Prop} {h' : Heap} {t : Nat} (ea : S l = some (a, φ)) (hh : Has h' a φ')
    (hs : Ext a s.heap h') : St c P m cm (updS S l (a, φ')) { s with heap := h', toks := t } := by
  obtain ⟨o', ho', hφ⟩ := hh
  have e0 : mkW c.L m c.cs cm P S (.lab l) = some (a, φ) := ea
  have hL := (X.own.has _ a _ e0).1
  refine ⟨⟨⟨fun b o e => ?_⟩, X.chg.gens, X.chg.drawn, X.chg.os⟩, ?_⟩
  · refine hs b o (fun q => ?_) (X.chg.sub.get b o e)
    rw [q, hL] at e; cases e
  refine X.own.step (a := a) (o' := o') (t0 := .lab l) (fun b o hb e => hs b o hb e) ho' hL (X.own.others e0) ?_
  intro t b φ2 e
  cases t with
  | loc => exact .inr ⟨(by intro z; cases z), φ2, e, fun _ q => q⟩
  | cel y => exact .inr ⟨(by intro z; cases z), φ2, e, fun _ q => q⟩
  | pin k => exact .inr ⟨(by intro z; cases z), φ2, e, fun _ q => q⟩
  | lab l' =>
    have ep : updS S l (a, φ') l' = some (b, φ2) := e
    unfold updS at ep
    by_cases hl : l' = l
    · subst hl
      rw [if_pos rfl] at ep; cases ep
      exact .inl ⟨rfl, rfl, hφ⟩
    · rw [if_neg hl] at ep
      exact .inr ⟨(by intro z; cases z; exact hl rfl), φ2, ep, fun _ q => q⟩
end

/-- what a comprehension has made stands at the labels (k, _) -/
def withL (k : Nat) (E : Sto Lab) (S : Sto Nat) : Sto Lab := fun l => if l.1 = k then S l.2 else E l
theorem mrg_with {D : Nat → DA} {n : Nat} {Z : DSt} {E : Sto Lab} {S : Sto Nat} {k : Nat} (hk : 3 ≤ k) : Mrg (cS D n Z E) S (cS D n Z (withL k E S)) := by
  refine ⟨fun j => (k, j), fun l a φ e => ?_⟩
  unfold cS withL at e
  unfold cS
  by_cases h : l.1 < 3
  · rw [if_pos h] at e; rw [if_pos h]; exact .inl e
  · rw [if_neg h] at e; rw [if_neg h]
    by_cases q : l.1 = k
    · rw [if_pos q] at e
      exact .inr ⟨l.2, by rw [← q], e⟩
    · rw [if_neg q] at e; exact .inl e

theorem listS_set0 {p q : Addr × (Obj → Prop)} {r : List (Addr × (Obj → Prop))} : ∀ j x, listS (q :: r) j = some x → updS (listS (p :: r)) 0 q j = some x := by
  intro j x e
  unfold updS
  cases j with
  | zero => exact e
  | succ j => exact e
theorem listS_snoc {p : Addr × (Obj → Prop)} {l : List (Addr × (Obj → Prop))} : ∀ j x, listS (l ++ [p]) j = some x → updS (listS l) l.length p j = some x := by
  intro j x e
  unfold updS
  have e' : (l ++ [p])[j]? = some x := e
  by_cases h : j = l.length
  · subst h
    rw [if_pos rfl]
    rw [List.getElem?_append_right (Nat.le_refl _), Nat.sub_self] at e'
    exact e'
  · rw [if_neg h]
    rcases Nat.lt_or_ge j l.length with q | q
    · rw [List.getElem?_append_left q] at e'; exact e'
    · rw [List.getElem?_eq_none (by simp; omega)] at e'; cases e'
end Mine
end

section
open PySem PySem.W PySem.Calls PyProof.Rows
namespace Mine

def SolvD (w : World) (o : Obj) : Prop := ∃ (q : Nat × Nat), o = dictOf [attrE w "_forwardcheck" q.1 (.bool true)] q.2
theorem fo_fc {w : World} (q : Nat × Nat) : findObj (Kf w) 186 (some (dictOf [attrE w "_forwardcheck" q.1 (.bool true)] q.2)) "_forwardcheck" = some (.value (.bool true)) := by kernel_rfl
theorem ga_solv {w : World} : findIn (Kf w) (.ref 186) "__getattribute__" = some (some (.builtin "object.__getattribute__")) := by kernel_rfl

theorem mrg_one {D : Nat → DA} {n : Nat} {Z : DSt} {E : Sto Lab} {k i : Nat} {p : Addr × (Obj → Prop)} (hk : 3 ≤ k) : Mrg (cS D n Z E) (listS [p]) (cS D n Z (updS E (k, i) p)) := by
  refine ⟨fun _ => (k, i), fun l a φ e => ?_⟩
  unfold cS updS at e
  unfold cS
  by_cases h : l.1 < 3
  · rw [if_pos h] at e; rw [if_pos h]; exact .inl e
  · rw [if_neg h] at e; rw [if_neg h]
    by_cases q : l = (k, i)
    · rw [if_pos q] at e; exact .inr ⟨0, q, e⟩
    · rw [if_neg q] at e; exact .inl e
theorem gen_new {w : World} {D : Nat → DA} {n : Nat} {Z : DSt} {aa qa : Addr} {a : List (Int × Int)} {tl al : List Frm} {f : Frm} {S8 : Sto Nat} : ∀ l p, cS D n Z (genE w D aa a qa tl (al ++ [f])) l = some p →
    cS D n Z (updS (updS (withL 8 (genE w D aa a qa tl al) S8) (6, al.length) (f.va, LstN f.vals)) (7, al.length) (f.pa, LstI (pdV D f.pd))) l = some p := by
  rintro ⟨k, i⟩ p e
  unfold cS updS withL
  match k, e with
  | 0, e => exact e
  | 1, e => exact e
  | 2, e => exact e
  | 3, e => exact e
  | 4, e => exact e
  | 5, e => exact e
  | 6, e =>
    have e' : ((al ++ [f])[i]?).map (fun f => (f.va, LstN f.vals)) = some p := e
    by_cases hi : i = al.length
    · subst hi
      rw [rev_last] at e'
      simpa using e'
    · rcases Nat.lt_or_ge i al.length with q | q
      · rw [List.getElem?_append_left q] at e'
        simp [hi]
        exact e'
      · rw [List.getElem?_eq_none (by simp; omega)] at e'; cases e'
  | 7, e =>
    have e' : ((al ++ [f])[i]?).map (fun f => (f.pa, LstI (pdV D f.pd))) = some p := e
    by_cases hi : i = al.length
    · subst hi
      rw [rev_last] at e'
      simpa using e'
    · rcases Nat.lt_or_ge i al.length with q | q
      · rw [List.getElem?_append_left q] at e'
        simp [hi]
        exact e'
      · rw [List.getElem?_eq_none (by simp; omega)] at e'; cases e'
  | k + 8, e => cases e
theorem domKv_get {D : Nat → DA} {n i : Nat} {k : Int} {u : Value} (h : (domKv D n)[i]? = some (k, u)) : i < n ∧ k = i := by
  unfold domKv at h
  obtain ⟨x, h1, h2⟩ := map_get h
  have := List.getElem?_eq_some_iff.mp h1
  obtain ⟨h3, h4⟩ := this
  simp at h3 h4
  subst h4
  cases h2
  exact ⟨h3, rfl⟩
theorem kv_nil {w : World} {h : Heap} {d : Addr} (x : Has h d (DicK w [])) : Has h d (DicN w []) := x.ofKv .nil

section
variable {w : World} {A : Around} {s : Shared} {g : Heap} {D : Nat → DA} {n : Nat} {cs : List Con} {dm vc : Addr} {vl : Nat → Addr} {vcs : Nat → List (Addr × Con)}

theorem gen_run {oc : Value} {od an : Option Addr} {osl : Array (Option Value)} {name qual : Str} {params : Arguments} {body : List Stmt} {scope : Scope} {dV kV doc pm cdv ct : Value} (ho : (Kf w).lookup 169 = some ⟨oc, od, .func (fnOf name qual params body scope dV kV doc pm an cdv ct), osl⟩)
    {L sv sdx : Addr} {s₀ : Shared} (hA : Ok A 9) (T : Stat w g) (V : SolvIn w g D n cs dm vc vl vcs) (gsv : g.get? sv = some (instObj 186 sdx)) (gsd : Has g sdx (SolvD w)) {Z : DSt} (hG : Good n cs [] Z)
    (X : St ⟨g, L, cellsFrom (L + 1) scope.names [], s₀⟩ [] (lo [("self", .ref sv)]) (lo [("domains", .ref dm), ("vconstraints", .ref vc)]) (cS D n Z noS2) s) {PR : Shared → Prop} {YR : Value → Shared → Prop} {s₁ : Shared}
    (hR : ∀ s', (∀ σ, ¬ Sol n cs σ) → Chg g s₀ s' → PR s')
    (hY : ∀ st Z r s', Good n cs st Z → (∀ x, x < n → ¬ Free (asg st) x) → Chg g s₀ s' → Led g s'.heap (fun l : Lab => if l = (3, 0) then some (r, DicN w (asg st)) else none) → (r == sysModules) = false → YR (.ref r) s') :
    SG w A (fun _ _ r s' => r = .ok (.ret .none) ∧ PR s') (fun _ _ v s' _ => YR v s') 1 s₁ (.func body (envX qual scope L 169 cdv (cellsFrom (L + 1) scope.names []))) ((model Pr w).den (.func body (envX qual scope L 169 cdv (cellsFrom (L + 1) scope.names [])))) [] s := by
  have h2 := ho.symm.trans (show (Kf w).lookup 169 = some _ from by exact rfl)
  cases h2
  obtain ⟨osd, gsd, q, rfl⟩ := gsd
  have n6 := V.n6
  have n3 := V.n3
  refine seg_func ?_
  refine sg_pre [_, _, _] ?_
  refine r_assign (r_attr (r_local X rfl (attr_plain (X.stat T) (X.base gsv) (X.base gsd) ga_solv (fo_fc q) rfl fun s' g' => ?_)))
  have S := X.grow g'
  refine r_store S fun s' S => ?_
  refine r_assign (d_empty (S.stat T) fun aa s' g' haa haf sysA => ?_)
  have S := S.newE g' (3, 0) (kv_nil haa) haf
  refine r_storeCell S fun s' S => ?_
  refine r_assign (r_list (args_nil ⟨by simp, fun qa s' g' hqa hqf => ?_⟩))
  have S := S.newE g' (4, 0) hqa hqf
  refine r_store S fun s' S => r_nil ?_
  have S : OutSt w D n cs dm vc aa qa X.cx [] Z s' := ⟨hG, (S.sto (S' := cS D n Z (genE w D aa [] qa [] [])) (by
    rintro ⟨k, i⟩ p e
    match k, e with
    | 0, e => exact e
    | 1, e => exact e
    | 2, e => exact e
    | 3, e =>
      have e' : (if i = 0 then some (aa, DicN w []) else none) = some p := e
      by_cases h : i = 0
      · subst h; exact e'
      · rw [if_neg h] at e'; cases e'
    | 4, e =>
      have e' : (if i = 0 then some (qa, LstI ([].map fun f : Frm => Value.ref f.ta)) else none) = some p := e
      by_cases h : i = 0
      · subst h; exact e'
      · rw [if_neg h] at e'; cases e'
    | 5, e => cases e
    | 6, e => cases e
    | 7, e => cases e
    | k + 8, e => cases e)).fit2⟩
  refine sg_while (fun k s => ∃ st Z, OutSt w D n cs dm vc aa qa X.cx st Z s ∧ mo n st = k) (fun p k s hinv ih => ?_) (mo n []) ⟨[], Z, S, rfl⟩
  obtain ⟨st, Z, ⟨G, S⟩, rfl⟩ := hinv
  refine t_true ⟨rfl, ?_⟩
  refine sg_pre [_, _] ?_
  have hdom := V.dom.ep
  obtain ⟨ep, hdom⟩ := hdom
  have hdl : (domKv D n).length = n := by simp [domKv]
  refine r_assignComp (r_cell S rfl ⟨_, _, _, fun l S' => ∃ ps : List (Addr × Int), ps.map (·.2) = (List.range n).map (fun (i : Nat) => (i : Int)) ∧ S' = listS ((l, LstI (ps.map fun p => Value.ref p.1)) :: ps.map fun p => (p.1, Tup3 p.2)),
    itb_keys V.sys (okOver1 hA).hd (S.baseH hdom), fun C l I φ s2 X' S2 => ?_, _, _, _, _, _, rfl, S, fun l S' hf => ?_⟩)
  · refine r_cloop X' (fun i m cm S => ∃ ps : List (Addr × Int), ps.map (·.2) = (List.range i).map (fun (i : Nat) => (i : Int)) ∧ m = [] ∧ cm = [] ∧ S = listS ((l, LstI (ps.map fun p => Value.ref p.1)) :: ps.map fun p => (p.1, Tup3 p.2)))
      ⟨[], rfl, rfl, rfl, rfl⟩ S2 (fun i P' m cm S3 s hi X3 => ?_) (fun i ψ m cm S3 s v hi hv hval S3 => ?_) (fun m cm S3 s hv S3 => ?_)
    · exact X3.baseH (S.baseH hdom)
    · obtain ⟨ps, hps, rfl, rfl, rfl⟩ := hv
      obtain ⟨k, u, t, hk, rfl⟩ := hval
      obtain ⟨hin, rfl⟩ := domKv_get hk
      refine a_name (r_store S3 fun s3 S3 => te_nil ?_)
      rw [if_pos rfl]
      refine em_list (r_tuple (args_cons (r_un (r_callName (r_built (S3.stat (S.stat T)) nb_len bt_len (r_cw (args_cons (r_sub (r_capt S S3.chg.sub rfl (r_local S3 rfl ⟨inPyDict (S3.baseH (S.baseH V.vcd)), d_get (S3.baseH (S.baseH V.vcd)) (kvf_at vl hin) fun s' g' => ?_⟩))))))))))
      have S3 := S3.grow g'
      refine args_nil ⟨keeps_builtin _ _, b_len (S3.stat (S.stat T)) bmL__len__ (S3.baseH (S.baseH (V.vlist _ hin))) (by simp; have := V.vlen _ hin; omega) fun t2 s' g' => ?_⟩
      have S3 := S3.grow g'
      refine i_neg fun t3 s' g' => ?_
      have S3 := S3.grow g'
      refine args_cons (r_callName (r_built (S3.stat (S.stat T)) nb_len bt_len (r_cw (args_cons (r_sub (r_capt S S3.chg.sub rfl (r_local S3 rfl ⟨inPyDict (S3.baseH (S.baseH V.dom)), d_get (S3.baseH (S.baseH V.dom)) (domKv_at D hin) fun s' g' => ?_⟩)))))))
      have S3 := S3.grow g'
      obtain ⟨xs, ix, hxs⟩ := (S3.baseH (S.at (cs_d hin))).ints
      have hxl := ints_length ix
      have hzl := G.zinv.len hin
      refine args_nil ⟨keeps_builtin _ _, b_len (S3.stat (S.stat T)) bmD__len__ hxs (by omega) fun t4 s' g' => ?_⟩
      have S3 := S3.grow g'
      refine args_cons (r_local S3 rfl (args_nil ⟨by simp, fun ta s' g' hta htf => ?_⟩))
      have S4 := (S3.new g' (l := ((l, LstI (ps.map fun p => Value.ref p.1)) :: ps.map fun p => (p.1, Tup3 p.2)).length) (φ := Tup3 (i : Int)) (let ⟨o, ho, hφ⟩ := hta; ⟨o, ho, _, _, _, _, _, hφ⟩) htf).sto listS_snoc
      have hpl : ps.length = i := by have := congrArg List.length hps; simpa using this
      refine b_append (S4.stat (S.stat T)) (S4.at (l := 0) rfl) (by simp; omega) fun h' h1 h2 => ?_
      have S5 := (S4.set (l := 0) (t := s'.toks) rfl h1 h2).sto listS_set0
      refine ⟨[], [], _, ⟨ps ++ [(ta, (i : Int))], ?_, rfl, rfl, rfl⟩, ?_⟩
      · rw [List.map_append, hps, List.range_succ, List.map_append]; rfl
      · rw [List.map_append, List.map_append]
        exact S5.fit2
    · obtain ⟨ps, hps, rfl, rfl, rfl⟩ := hv
      exact ⟨⟨_, rfl⟩, _, _, _, _, S3, ps, by rw [hps, hdl], rfl⟩
  · obtain ⟨ps, hps, rfl⟩ := hf
    refine ⟨_, mrg_with (k := 8) (by decide), fun s3 S3 => ?_⟩
    have hpl : ps.length = n := by have := congrArg List.length hps; simpa using this
    have tup : ∀ {P : List (Addr × (Obj → Prop))} {m cm : Loc} {E : Sto Lab} {φl : Obj → Prop} {l : Addr} {s : Shared}, St X.cx P m cm (cS D n Z (withL 8 E (listS ((l, φl) :: ps.map fun p => (p.1, Tup3 p.2))))) s → ∀ p ∈ ps, Has s.heap p.1 (Tup3 p.2) ∧ p.1 ≠ l := by
      intro P m cm E φl l s S p hp
      obtain ⟨j, hj⟩ := List.getElem?_of_mem hp
      have e1 : cS D n Z (withL 8 E (listS ((l, φl) :: ps.map fun p => (p.1, Tup3 p.2)))) (8, j + 1) = some (p.1, Tup3 p.2) := by
        show (ps.map fun p => (p.1, Tup3 p.2))[j]? = _
        rw [List.getElem?_map, hj]; rfl
      refine ⟨S.at e1, fun e => ?_⟩
      have := S.inj e1 (l' := (8, 0)) (a := p.1) (φ' := φl) (by rw [e]; rfl)
      cases this
    refine r_expr (r_callMeth (r_local S3 rfl (m_list bmL_sort (S3.stat T) (S3.at (l := (8, 0)) rfl) (r_cw0 (keeps_builtin _ _) (b_sortT (S3.stat T) (S3.at (l := (8, 0)) rfl) (fun p hp => (tup S3 p hp).1) (fun p hp => (tup S3 p hp).2) (by omega) (by omega) fun h' tk ps' hperm h1 h2 => ?_)))))
    have S4 := (S3.setE (l := (8, 0)) (t := tk) rfl h1 h2).sto (S' := cS D n Z (withL 8 (genE w D aa (asg st) qa st.reverse st.reverse) (listS ((l, LstI (ps'.map fun p => Value.ref p.1)) :: ps.map fun p => (p.1, Tup3 p.2))))) (fun l' p e => by
      unfold updS
      by_cases q : l' = (8, 0)
      · subst q; exact e
      · rw [if_neg q]
        unfold cS withL at e
        unfold cS withL
        by_cases h : l'.1 < 3
        · rw [if_pos h] at e ⊢; exact e
        · rw [if_neg h] at e ⊢
          by_cases q8 : l'.1 = 8
          · rw [if_pos q8] at e ⊢
            obtain ⟨k, j⟩ := l'
            cases j with
            | zero => exact absurd (by cases q8; rfl) q
            | succ j => exact e
          · rw [if_neg q8] at e ⊢; exact e)
    refine r_nil ?_
    refine sg_for (fun i lm cm S => lm = lo [("queue", .ref qa), ("forwardcheck", .bool true)] ∧ cm = lo [("domains", .ref dm), ("vconstraints", .ref vc), ("assignments", .ref aa)] ∧
        S = cS D n Z (withL 8 (genE w D aa (asg st) qa st.reverse st.reverse) (listS ((l, LstI (ps'.map fun p => Value.ref p.1)) :: ps.map fun p => (p.1, Tup3 p.2)))) ∧ ∀ p ∈ ps'.take i, ∀ x : Nat, p.2 = (x : Int) → ¬ Free (asg st) x)
      (r_local S4 rfl ⟨l, _, rfl, S4.at (l := (8, 0)) rfl, ⟨_, _, _, ⟨rfl, rfl, rfl, by simp⟩, S4.fit2⟩, fun i P' lm cm S s hi X2 => ?_, fun p2 i I ψ lm cm S s v hinv hval S => ?_, fun p2 lm cm S s hinv S => ?_⟩) (okOver1 hA).hd (fun it p => (okOver2 hA).hd)
    · obtain ⟨rfl, rfl, rfl, _⟩ := hi
      exact X2.at (l := (8, 0)) rfl
    · obtain ⟨rfl, rfl, rfl, hpre⟩ := hinv
      obtain ⟨pr, hpr, rfl⟩ := map_get hval
      have pm' := List.mem_of_getElem? hpr
      have pm := hperm.subset pm'
      obtain ⟨x, hx, hxe⟩ : ∃ x : Nat, x < n ∧ pr.2 = (x : Int) := by
        have : pr.2 ∈ ps.map (·.2) := List.mem_map_of_mem pm
        rw [hps] at this
        obtain ⟨x, hx, e⟩ := List.mem_map.mp this
        exact ⟨x, List.mem_range.mp hx, e.symm⟩
      have hst := G.len
      refine a_name (r_store S fun s3 S => ?_)
      refine r_if (t_cmp (r_sub (r_local S rfl (r_un (r_int fun t5 s' g' => i_neg fun t6 s'' g'' => ?_)))))
      have S := (S.grow g').grow g''
      obtain ⟨oT, hoT, b1, b2, b3, b4, b5, hTup⟩ := (tup S pr pm).1
      refine ⟨inPyTup ⟨oT, hoT, hTup⟩, t_get (k := 2) ⟨oT, hoT, hTup⟩ (by decide) (by decide) (by rfl) rfl ?_⟩
      rw [hxe]
      refine r_cell S rfl (n_notin sysA (S.at (l := (3, 0)) rfl) fun s' g' => tr_bool ?_)
      have S := S.grow g'
      cases hfree : (asg st).lookup (x : Int) with
      | some u =>
        rw [if_neg (by simp)]
        refine r_nil (k_next (r_nil ⟨_, _, _, ⟨rfl, rfl, rfl, fun p hp y hy => ?_⟩, S.fit2⟩))
        rw [take_snoc hpr] at hp
        rcases List.mem_append.mp hp with hp | hp
        · exact hpre p hp y hy
        · rw [List.mem_singleton.mp hp, hxe] at hy
          have : x = y := by omega
          subst this
          unfold Free; rw [hfree]; simp
      | none =>
      rw [if_pos (by simp)]
      have hfree : Free (asg st) x := hfree
      obtain ⟨c1, c2, c3, c4⟩ := G.choose hx hfree
      -- variable = item[-1]
      refine r_assign (r_sub (r_local S rfl (r_un (r_int fun t5 s' g' => i_neg fun t6 s'' g'' => ?_))))
      have S := (S.grow g').grow g''
      obtain ⟨oT, hoT, b1, b2, b3, b4, b5, hTup⟩ := (tup S pr pm).1
      refine ⟨inPyTup ⟨oT, hoT, hTup⟩, t_get (k := 2) ⟨oT, hoT, hTup⟩ (by decide) (by decide) (by rfl) rfl ?_⟩
      rw [hxe]
      refine r_storeCell S fun s' S => ?_
      -- values = domains[variable][:]
      refine r_assign (r_copy (r_sub (r_cell S rfl (r_cell S rfl ⟨inPyDict (S.baseH V.dom), d_get (S.baseH V.dom) (domKv_at D hx) fun s' g' => ?_⟩))))
      have S := S.grow g'
      refine ⟨(D x).d, .ref 264, _, _, rfl, S.stat T, S.at (cs_d hx), sk_dom, bmD__getitem__, by omega, fun va s' g' hva hvf => ?_⟩
      have S := S.newE g' (6, st.reverse.length) hva hvf (by show 3 ≤ 6; decide)
      refine r_store S fun s' S => ?_
      -- if forwardcheck: pushdomains = ..
      refine r_if (t_name (r_local S rfl (tr_bool ?_)))
      rw [if_pos rfl]
      refine r_assignComp (r_cell S rfl ⟨_, _, _, fun l S' => S' = listS [(l, LstI (pdV D ((List.range n).filter fun (y : Nat) => ((asg st).lookup (y : Int)).isNone && decide (y ≠ x))))],
        itb_keys V.sys (okOver2 hA).hd (S.baseH hdom), fun C l2 I2 φ s2 X' S2 => ?_, _, _, _, _, _, rfl, S, fun l2 S' hf => ?_⟩)
      · refine r_cloop X' (fun i m cm S => m = [] ∧ cm = [] ∧ S = listS [(l2, LstI (pdV D ((List.range i).filter fun (y : Nat) => ((asg st).lookup (y : Int)).isNone && decide (y ≠ x))))])
          ⟨rfl, rfl, rfl⟩ S2 (fun i P' m cm S3 s hi X3 => X3.baseH (S.baseH hdom)) (fun i ψ m cm S3 s v hi hv hval S3 => ?_) (fun m cm S3 s hv S3 => ?_)
        · obtain ⟨rfl, rfl, rfl⟩ := hv
          obtain ⟨k, u, t7, hk, rfl⟩ := hval
          obtain ⟨hin, rfl⟩ := domKv_get hk
          refine a_name (r_store S3 fun s3 S3 => te_one (isTrue_and (t_cmp (r_local S3 rfl (r_capt S S3.chg.sub rfl (n_notin sysA (S3.baseH (S.at (l := (3, 0)) rfl)) fun s' g' => tr_bool ?_))))))
          have S3 := S3.grow g'
          have hrs : (List.range (i + 1)).filter (fun (y : Nat) => ((asg st).lookup (y : Int)).isNone && decide (y ≠ x)) = (List.range i).filter (fun (y : Nat) => ((asg st).lookup (y : Int)).isNone && decide (y ≠ x)) ++ (if (((asg st).lookup (i : Int)).isNone && decide (i ≠ x)) = true then [i] else []) := by
            rw [List.range_succ, List.filter_append]
            simp only [List.filter_cons, List.filter_nil]
          cases hfi : (asg st).lookup (i : Int) with
          | some u2 =>
            rw [if_neg (by simp), if_neg (by simp)]
            refine ⟨[], [], _, ⟨rfl, rfl, rfl⟩, ?_⟩
            rw [hrs, hfi, if_neg (by simp), List.append_nil]
            exact S3.fit2
          | none =>
            rw [if_pos (by simp)]
            refine isTrue_and (t_cmp (r_local S3 rfl (r_capt S S3.chg.sub rfl (P.ne_int (tr_bool ?_)))))
            by_cases hix : i = x
            · subst hix
              rw [if_neg (by simp), if_neg (by simp)]
              refine ⟨[], [], _, ⟨rfl, rfl, rfl⟩, ?_⟩
              rw [hrs, if_neg (by simp), List.append_nil]
              exact S3.fit2
            · rw [if_pos (by simp; omega)]
              refine isTrue_and_nil ?_
              rw [if_pos rfl]
              refine em_list (r_sub (r_capt S S3.chg.sub rfl (r_local S3 rfl ⟨inPyDict (S3.baseH (S.baseH V.dom)), d_get (S3.baseH (S.baseH V.dom)) (domKv_at D hin) fun s' g' => ?_⟩)))
              have S3 := S3.grow g'
              refine b_append (S3.stat (S.stat T)) (S3.at (l := 0) rfl) (by rw [List.length_map]; have := List.length_filter_le (fun (y : Nat) => ((asg st).lookup (y : Int)).isNone && decide (y ≠ x)) (List.range i); simp at this ⊢; omega) fun h' h1 h2 => ?_
              have S5 := (S3.set (l := 0) (t := s'.toks) rfl h1 h2).sto listS_set0
              refine ⟨[], [], _, ⟨rfl, rfl, rfl⟩, ?_⟩
              rw [hrs, hfi, if_pos (by simp [hix])]
              unfold pdV at S5 ⊢
              rw [List.map_append]
              exact S5.fit2
        · obtain ⟨rfl, rfl, rfl⟩ := hv
          rw [hdl] at S3
          exact ⟨⟨_, rfl⟩, _, _, _, _, S3, rfl⟩
      · subst hf
        refine ⟨_, mrg_one (k := 7) (i := st.reverse.length) (by decide), fun s3 S => ?_⟩
        refine r_nil (k_next (r_break ?_))
        generalize hpd : ((List.range n).filter fun (y : Nat) => ((asg st).lookup (y : Int)).isNone && decide (y ≠ x)) = pd at S
        have S := S.unpin.sto (S' := cS D n Z (genE w D aa (asg st) qa st.reverse (st.reverse ++ [⟨x, 0, Z.X x, pd, 0, va, l2⟩]))) gen_new
        have hIS : InnSt n cs st ⟨x, 0, Z.X x, pd, 0, va, l2⟩ Z (asg st) := by
          refine ⟨G, hx, hfree, ⟨?_, fun y => ?_⟩, c1, c4, c3, .inl ⟨rfl, c2⟩⟩
          · rw [← hpd]; exact List.Pairwise.filter _ List.nodup_range
          · rw [← hpd, List.mem_filter, List.mem_range, Bool.and_eq_true, decide_eq_true_eq, Option.isNone_iff_eq_none]
            exact Iff.rfl
        refine sg_pre [_, _] (rest := []) ?_
        refine WA.mono (inner_run (by exact rfl) ((okOver1 hA).le (by decide)) T V sysA ⟨st, _, Z, asg st, _, hIS, rfl, rfl, rfl, rfl⟩ S.fit2) fun fl s' hp => ?_
        have hml : mi n st (Z.X x) < mo n st := by
          unfold mi mo
          have : (Z.X x).length * 3 ^ (n - st.length) ≤ 2 * 3 ^ (n - st.length) := Nat.mul_le_mul_right _ c4
          omega
        cases fl with
        | next =>
          obtain ⟨st', Z', hO, hm⟩ := hp
          exact ih (mo n st') s' (by have h9 : mo n st' ≤ mi n st (Z.X x) := hm; omega) ⟨st', Z', hO, rfl⟩
        | ret v =>
          obtain ⟨rfl, hno, hc⟩ := hp
          exact sg_pop (seg_end (.ok (.ret .none)) ⟨rfl, hR s' hno hc⟩)
        | brk => exact hp.elim
        | cont => exact hp.elim
    · obtain ⟨rfl, rfl, rfl, hpre⟩ := hinv
      have hst := G.len
      refine sg_yield rfl rfl (r_callMeth (r_cell S rfl ?_))
      obtain ⟨kvs, ik, hkv⟩ := (S.at (l := (3, 0)) rfl : Has s.heap aa (DicN w (asg st))).kv
      have hkl := kv_len ik
      rw [asg_len] at hkl
      refine m_dict bmDict_copy (S.stat T) hkv (r_cw0 (keeps_builtin _ _) (d_copy (S.stat T) sysA hkv (by omega) fun r s' g' hr hrf hrs kap => ?_))
      refine hY st Z r s' G (fun x hx => ?_) (S.grow g').chg ⟨fun l a φ e => ?_, fun l l' a φ φ' e e' => ?_⟩ hrs
      · have : ((x : Nat) : Int) ∈ ps.map (·.2) := by rw [hps]; exact List.mem_map.mpr ⟨x, List.mem_range.mpr hx, rfl⟩
        obtain ⟨p, hp, e⟩ := List.mem_map.mp this
        exact hpre p (by rw [List.length_map, List.take_length]; exact hperm.symm.subset hp) x e
      · by_cases q : l = (3, 0)
        · rw [if_pos q] at e; cases e
          exact ⟨hr.ofKv ik, S.chg.sub.none hrf⟩
        · rw [if_neg q] at e; cases e
      · by_cases q : l = (3, 0)
        · by_cases q' : l' = (3, 0)
          · rw [q, q']
          · rw [if_neg q'] at e'; cases e'
        · rw [if_neg q] at e; cases e
end
end Mine
end

section
open PySem PySem.W PySem.Calls PyProof.Rows
namespace Mine

theorem St.rebase {ι : Type} {g : Heap} {L : Addr} {cs : List (Str × Addr)} {s0 s : Shared} {P : List (Addr × (Obj → Prop))} {m cm : Loc} {S : Sto ι} (X : St ⟨g, L, cs, s0⟩ P m cm S s) : St ⟨g, L, cs, s⟩ P m cm S s :=
  ⟨⟨X.chg.sub, .refl _, rfl, rfl⟩, X.own⟩

/-- a generator's frame, out of a ledger -/
theorem St.ofLed {g : Heap} {L : Addr} {cells : List (Str × Addr)} {m cm : Loc} {Sc S : Sto Lab} {s : Shared} (hg : Sub g s.heap) (hL : Led g s.heap Sc) (h0 : Sc (40, 0) = some (L, locP m))
    (hc : ∀ x a, cells.lookup x = some a → ∃ j, Sc (41, j) = some (a, celP cm x) ∧ ∀ y, cells.lookup y = some a → y = x) (hS : ∀ l p, S l = some p → Sc l = some p ∧ l.1 < 40) : St ⟨g, L, cells, s⟩ [] m cm S s := by
  refine ⟨⟨hg, .refl _, rfl, rfl⟩, ⟨fun t a φ e => ?_, fun t t' a φ φ' e e' => ?_⟩⟩
  · cases t with
    | loc => cases e; exact ⟨(hL.has _ _ _ h0).2, (hL.has _ _ _ h0).1⟩
    | cel x =>
      obtain ⟨b, ea, eb⟩ := Option.map_eq_some_iff.mp e
      cases eb
      obtain ⟨j, hj, _⟩ := hc x _ ea
      exact ⟨(hL.has _ _ _ hj).2, (hL.has _ _ _ hj).1⟩
    | pin k => cases e
    | lab l => exact ⟨(hL.has _ _ _ (hS _ _ e).1).2, (hL.has _ _ _ (hS _ _ e).1).1⟩
  · have key : ∀ {t : Tag Lab} {a : Addr} {φ : Obj → Prop}, mkW L m cells cm [] S t = some (a, φ) → (t = .loc ∧ a = L) ∨ (∃ x, t = .cel x ∧ cells.lookup x = some a) ∨ (∃ l, t = .lab l ∧ Sc l = some (a, φ) ∧ l.1 < 40) := by
      intro t a φ e
      cases t with
      | loc => cases e; exact .inl ⟨rfl, rfl⟩
      | cel x =>
        obtain ⟨b, ea, eb⟩ := Option.map_eq_some_iff.mp e
        cases eb
        exact .inr (.inl ⟨x, rfl, ea⟩)
      | pin k => cases e
      | lab l => exact .inr (.inr ⟨l, rfl, (hS _ _ e).1, (hS _ _ e).2⟩)
    rcases key e with ⟨rfl, rfl⟩ | ⟨x, rfl, hx⟩ | ⟨l, rfl, hl, hl2⟩ <;> rcases key e' with ⟨rfl, h'⟩ | ⟨y, rfl, hy⟩ | ⟨l', rfl, hl', hl2'⟩
    · rfl
    · obtain ⟨j, hj, _⟩ := hc y _ hy
      have := hL.inj _ _ _ _ _ h0 hj; cases this
    · have := hL.inj _ _ _ _ _ h0 hl'; subst this; exact absurd hl2' (by decide)
    · subst h'
      obtain ⟨j, hj, _⟩ := hc x _ hx
      have := hL.inj _ _ _ _ _ h0 hj; cases this
    · obtain ⟨j, hj, hu⟩ := hc y _ hy
      rw [hu x hx]
    · obtain ⟨j, hj, _⟩ := hc x _ hx
      have := hL.inj _ _ _ _ _ hj hl'; subst this; exact absurd hl2' (by show ¬ 41 < 40; decide)
    · subst h'
      have := hL.inj _ _ _ _ _ h0 hl; subst this; exact absurd hl2 (by decide)
    · obtain ⟨j, hj, _⟩ := hc y _ hy
      have := hL.inj _ _ _ _ _ hj hl; subst this; exact absurd hl2 (by show ¬ 41 < 40; decide)
    · rw [hL.inj _ _ _ _ _ hl hl']

/-- the frames around, as ledger entries -/
def outS (fr : List (Addr × Loc)) : Sto Lab := fun l => if l.1 = 30 then (fr[l.2]?).map fun p => (p.1, locP p.2) else none
def Fits (outer : List Env) (fr : List (Addr × Loc)) : Prop := outer.map (·.frame) = fr.map (fun p => some p.1) ∧ ∀ e ∈ outer, e.scope.kind ≠ .module
theorem funFrames {g h : Heap} : ∀ {outer : List Env} {fr : List (Addr × Loc)}, Fits outer fr → (∀ p ∈ fr, Has h p.1 (locP p.2) ∧ g.get? p.1 = none) → h.FunFrames g outer
  | [], _, _, _ => trivial
  | e :: outer, [], F, _ => by have := F.1; simp at this
  | e :: outer, p :: fr, F, hp => by
    have h1 := F.1
    simp only [List.map_cons, List.cons.injEq] at h1
    obtain ⟨⟨o, ho, es, ep, hd, _⟩, hn⟩ := hp p List.mem_cons_self
    exact ⟨F.2 e List.mem_cons_self, ⟨p.1, o, h1.1, hn, ho, fun vs q => by rw [hd] at q; cases q⟩, funFrames ⟨h1.2, fun e' he' => F.2 e' (List.mem_cons_of_mem _ he')⟩ fun q hq => hp q (List.mem_cons_of_mem _ hq)⟩
theorem out_mem {g h : Heap} {fr : List (Addr × Loc)} {S : Sto Lab} (hL : Led g h S) (hS : ∀ l p, outS fr l = some p → S l = some p) : ∀ p ∈ fr, Has h p.1 (locP p.2) ∧ g.get? p.1 = none := by
  intro p hp
  obtain ⟨j, hj⟩ := List.getElem?_of_mem hp
  exact hL.has (30, j) _ _ (hS _ _ (by show (if 30 = 30 then _ else _) = _; rw [if_pos rfl, hj]; rfl))

section
variable {w : World} {A : Around} {s : Shared} {env : Env} {E : Value → Shared → Prop}
/-- an exception is noted for the first time, in frames that stand -/
theorem note_first {base : Heap} {outer : List Env} {L e : Addr} {oe : Obj} {vs : Array Value} {a0 : Value} {Q : Unit → Shared → Prop}
    (hfr : A.frames = some (env :: outer)) (hl : s.heap.FunFrames base (env :: outer)) (hf : env.frame = some L)
    (he : s.heap.get? e = some oe) (hkb : base.StaysIn s.heap) (hen : base.get? e = none) (hd : oe.data = .fields vs) (h1 : vs[1]? = some .none) (h0 : vs[0]? = some a0)
    (h : ∀ h', Heap.LeftW base (env :: outer) e oe.cls a0 s.heap h' → Q () { s with heap := h' }) :
    wpAny (model Pr w) A (noteFrame (.ref e) env) (fun _ s' => wpAny (model Pr w) A (setFlight (.ref e) none) Q E s') E s := by
  unfold noteFrame
  simp only [hf]
  refine wpAny_bind (wpAny_field he hd h1 ?_)
  rw [if_neg (by decide)]
  exact wpAny_newEntryW hfr hl hf he hkb hen hd (Array.getElem?_eq_some_iff.mp h1).1 h0 h

/-- next(..) of a generator -/
theorem next_gen {a : Addr} {gi : Nat} {c : Code} {PR : Shared → Prop} {YR : Value → Shared → Prop} {Q : Value → Shared → Prop} (hh : A.handled = none) (hl : s.heap.NoLimit) (hroom : A.depth < recursionLimit)
    (hg : s.heap.IsGen a gi) (hgs : s.gens[gi]? = some (.fresh c))
    (hgo : SG w A.in1.in1 (fun _ _ r s' => r = .ok (.ret .none) ∧ PR s') (fun _ _ v s' _ => YR v s') 1 (s.setGen gi .running) c ((model Pr w).den c) [] (s.setGen gi .running))
    (hY : ∀ v s₁ gs', gs'.bare = true → YR v s₁ → Q v (s₁.setGen gi gs'))
    (hP : ∀ s₁, PR s₁ → ∀ h' e oe vs tp, h'.get? e = some oe → oe.cls = .type "StopIteration" → oe.data = .fields vs → vs[1]? = some .none → vs[0]? = some (.ref tp) → s₁.heap.get? e = none → (∀ b o, s₁.heap.get? b = some o → h'.get? b = some o) → E (.ref e) { s₁.setGen gi .finished with heap := h' }) :
    wpAny (model Pr w) A (call (.builtin "next") [.ref a]) Q E s := by
  refine call_function_entry (b := Builtin.«next») (by decide +kernel) (by decide +kernel) (entryFor_of_tree (by kernel_rfl)) (by unfold argsOk; kernel_rfl) ?_
  unfold Builtin.«next»
  refine wpAny_bind (m := someArgs "next" 1 2 _) (wpAny_of_eq (a := [Value.ref a]) (by first | rfl | kernel_rfl!) ?_)
  dsimp only
  refine wpAny_bind (wpAny_specialOf (name := Str.ofString "__next__") hg.typeIs slot_gen_next.lookup ?_)
  refine wpAny_ite_split (fun hab => absurd hab (by decide)) (fun _ => ?_)
  refine wpAny_bind (wpAny_callSpecial?_slot (name := Str.ofString "__next__") hg.typeIs slot_gen_next
    (wpAny_call_entry slot_gen_next hg.typeIs entry_gen_next ?_ (args_gen_next _)))
  show wpAny _ _ (Builtin.Generator.genWake (.ref a) (.send .none)) _ _ s
  unfold Builtin.Generator.genWake
  refine wpAny_bind (wpAny_holding (wpAny_genNumber hg (wpAny_bind (wpAny_genState hgs ?_))))
  refine wpAny_bind (wpAny_roomToWake hl hroom ?_)
  show wpAny _ _ (.resume gi (.send .none) [] _) _ _ s
  refine wpAny_resumeQ (R := fun _ _ r s' => r = .ok (.ret .none) ∧ PR s') (Y := fun _ _ v s' _ => YR v s') (n := 1) hgs ⟨rfl, hgo⟩ (fun x s₁ hx => ?_) (fun v s₁ gs' hbare hv => ?_)
  · obtain ⟨rfl, hp⟩ := hx
    show wpAny _ _ (newExc (.type "StopIteration") [] >>= _) _ _ _
    refine wpAny_bind ?_
    simp only [newExc, newTuple]
    refine wpAny_bind (wpAny_newObj_type ?_ (by size_fits))
    refine wpAny_bind (m := firstArgMember _ _) (wpAny_of_eq (a := Value.none) (by first | rfl | (simp only [firstArgMember]; rfl)) ?_)
    refine wpAny_newObj_type ?_ (by size_fits)
    simp only [raiseNew]
    refine wpAny_bind (wpAny_bind (wpAny_handled ?_))
    rw [show A.in1.in1.handled = none from hh]
    refine wpAny_throw ?_
    refine hP s₁ hp _ _ _ _ _ (Heap.get?_push_size _ rfl) rfl rfl (by rw [Array.getElem?_append_left (by simp)]; rfl) (by rw [Array.getElem?_append_left (by simp)]; rfl) (Heap.get?_none_of_le (by rw [Heap.size_push]; exact Nat.le_succ _)) fun b o hb => Heap.get?_push_of_some _ (Heap.get?_push_of_some _ hb)
  · exact wpAny_pure ⟨v, rfl, wpAny_pure ⟨v, rfl, hY v s₁ gs' hbare hv⟩⟩
end
end Mine
end

section
open PySem PySem.W PySem.Calls PyProof.Rows
namespace Mine

def GenP (gi : Nat) (o : Obj) : Prop := ∃ nm qn, o.cls = .type "generator" ∧ o.data = .fields #[.int gi 0, nm, qn] ∧ o.slots = #[]
/-- what the call of a generator function has made -/
def genS (L : Addr) (cells : List (Str × Addr)) (m cm : Loc) (ga gi : Nat) : Sto Lab := fun l =>
  if l = (40, 0) then some (L, locP m) else if l.1 = 41 then (cells[l.2]?).map (fun p => (p.2, celP cm p.1)) else if l = (42, 0) then some (ga, GenP gi) else none
theorem genS_cases {L : Addr} {cells : List (Str × Addr)} {m cm : Loc} {ga gi : Nat} {l : Lab} {a : Addr} {φ : Obj → Prop} (e : genS L cells m cm ga gi l = some (a, φ)) :
    (l = (40, 0) ∧ a = L ∧ φ = locP m) ∨ (∃ j p, l = (41, j) ∧ cells[j]? = some p ∧ a = p.2 ∧ φ = celP cm p.1) ∨ (l = (42, 0) ∧ a = ga ∧ φ = GenP gi) := by
  unfold genS at e
  by_cases h : l = (40, 0)
  · rw [if_pos h] at e; cases e; exact .inl ⟨h, rfl, rfl⟩
  · rw [if_neg h] at e
    by_cases h2 : l.1 = 41
    · rw [if_pos h2] at e
      obtain ⟨p, hp, hq⟩ := Option.map_eq_some_iff.mp e
      cases hq
      exact .inr (.inl ⟨l.2, p, by rw [← h2], hp, rfl, rfl⟩)
    · rw [if_neg h2] at e
      by_cases h3 : l = (42, 0)
      · rw [if_pos h3] at e; cases e; exact .inr (.inr ⟨h3, rfl, rfl⟩)
      · rw [if_neg h3] at e; cases e

theorem made_gen {s₀ s₁ : Shared} {L : Addr} {mL mC : Str → Option Value} {cells : List (Str × Addr)} {m cm : Loc} {go : Obj} {gs : GenState} {t : Nat} (Y : InCallC s₀ L mL cells mC s₁) (hm : ∀ x v, m.lookup x = some v → mL x = some v) (hc : ∀ x v, cm.lookup x = some v → mC x = some v)
    (hn : (cells.map (·.1)).Nodup) (hgo : GenP s₁.gens.size go) (hfr : go.isFreed = false) (hgb : gs.bare = true) : Made s₀ { s₁ with gens := s₁.gens.push gs, heap := s₁.heap.push go, toks := t } (genS L cells m cm s₁.heap.objs.size s₁.gens.size) := by
  obtain ⟨h', tk, rfl, keep⟩ := Y.done
  have hL := Y.toInCall.fresh
  have fresh : ∀ {a : Addr}, s₀.heap.objs.size ≤ a → s₀.heap.get? a = none := fun ha => Heap.get?_none_of_le ha
  have look : ∀ {x : Str} {a : Addr}, (x, a) ∈ cells → cells.lookup x = some a := by
    intro x a hx
    induction cells with
    | nil => cases hx
    | cons p r ih =>
      obtain ⟨y, b⟩ := p
      rw [List.lookup_cons]
      rcases List.mem_cons.mp hx with e | hx'
      · cases e; simp
      · have hne : x ≠ y := fun q => by
          subst q
          exact (List.nodup_cons.mp (show (((x, b) :: r).map (·.1)).Nodup from hn)).1 (List.mem_map_of_mem (f := (·.1)) hx')
        rw [show (x == y) = false from by simp [hne]]
        have hn' := (List.nodup_cons.mp (show ((y, b) :: r).map (·.1) |>.Nodup from hn)).2
        exact ih hn' ⟨Y.toInCall, fun n c h => Y.cell n c (by
          rw [List.lookup_cons]
          by_cases q : n = y
          · subst q
            have := mem_of_lookup h
            exact absurd (List.mem_map_of_mem (f := (·.1)) this) (List.nodup_cons.mp (show ((n, b) :: r).map (·.1) |>.Nodup from hn)).1
          · rw [show (n == y) = false from by simp [q]]; exact h), (List.pairwise_cons.mp Y.apart).2, fun n c h => Y.above n c (List.mem_cons_of_mem _ h)⟩ hx'
  have cellAt : ∀ {j : Nat} {p : Str × Addr}, cells[j]? = some p → h'.IsCell p.2 (mC p.1) ∧ L < p.2 := fun {j p} hj => by
    have hm := List.mem_of_getElem? hj
    exact ⟨Y.cell p.1 p.2 (look hm), Y.above _ _ hm⟩
  refine ⟨⟨⟨fun a o e => Heap.get?_push_of_some _ (keep a o e)⟩, ⟨fun i x e => ?_, fun hb => hb.push hgb⟩, rfl, rfl⟩, ⟨fun l a φ e => ?_, fun l l' a φ φ' e e' => ?_⟩⟩
  · show (s₀.gens.push gs)[i]? = some x
    rw [Array.getElem?_push]
    have := (Array.getElem?_eq_some_iff.mp e).1
    rw [if_neg (by omega)]; exact e
  · rcases genS_cases e with ⟨rfl, rfl, rfl⟩ | ⟨j, p, rfl, hj, rfl, rfl⟩ | ⟨rfl, rfl, rfl⟩
    · obtain ⟨o, es, ep, ho, hd, hk, hf⟩ := Y.toInCall.ns
      exact ⟨⟨o, Heap.get?_push_of_some _ ho, es, ep, hd, hk, fun x v q => by rw [hf x]; exact hm x v q⟩, fresh hL⟩
    · obtain ⟨⟨o, ho, hd⟩, hlt⟩ := cellAt hj
      exact ⟨⟨o, Heap.get?_push_of_some _ ho, mC p.1, hd, fun u q => hc p.1 u q⟩, fresh (Nat.le_trans hL (Nat.le_of_lt hlt))⟩
    · refine ⟨⟨go, Heap.get?_push_size _ hfr, hgo⟩, fresh ?_⟩
      obtain ⟨o, es, ep, ho, _⟩ := Y.toInCall.ns
      exact Nat.le_trans hL (Nat.le_of_lt (Heap.lt_size ho))
  · obtain ⟨oL, esL, epL, hoL, _⟩ := Y.toInCall.ns
    have hLs := Heap.lt_size hoL
    rcases genS_cases e with ⟨rfl, rfl, rfl⟩ | ⟨j, p, rfl, hj, rfl, rfl⟩ | ⟨rfl, rfl, rfl⟩ <;> rcases genS_cases e' with ⟨rfl, h1, rfl⟩ | ⟨j', p', rfl, hj', h1, rfl⟩ | ⟨rfl, h1, rfl⟩
    · rfl
    · exact absurd (cellAt hj').2 (by rw [← h1]; exact Nat.lt_irrefl _)
    · exact absurd hLs (by rw [h1]; exact Nat.lt_irrefl _)
    · exact absurd (cellAt hj).2 (by rw [h1]; exact Nat.lt_irrefl _)
    · have hx : p.1 = p'.1 := pairwise_inj Y.apart (a := p.2) (List.mem_of_getElem? hj) (by rw [h1]; exact List.mem_of_getElem? hj')
      have a1 : (cells.map (·.1))[j]? = some p.1 := by rw [List.getElem?_map, hj]; rfl
      have a2 : (cells.map (·.1))[j']? = some p.1 := by rw [List.getElem?_map, hj', hx]; rfl
      have := (List.getElem?_inj (List.getElem?_eq_some_iff.mp a1).1 hn).mp (a1.trans a2.symm)
      rw [this]
    · obtain ⟨⟨o, ho, _⟩, _⟩ := cellAt hj
      exact absurd (Heap.lt_size ho) (by rw [h1]; exact Nat.lt_irrefl _)
    · exact absurd hLs (by rw [← h1]; exact Nat.lt_irrefl _)
    · obtain ⟨⟨o, ho, _⟩, _⟩ := cellAt hj'
      exact absurd (Heap.lt_size ho) (by rw [← h1]; exact Nat.lt_irrefl _)
    · rfl

theorem SolvIn.mono {w : World} {g h : Heap} {D : Nat → DA} {n : Nat} {cs : List Con} {dm vc : Addr} {vl : Nat → Addr} {vcs : Nat → List (Addr × Con)} (V : SolvIn w g D n cs dm vc vl vcs) (k : Sub g h) : SolvIn w h D n cs dm vc vl vcs :=
  ⟨V.B.mono k, V.dom.mono k, V.sys, V.vcd.mono k, fun x hx => (V.vlist x hx).mono k, V.vlen, fun x hx p hp => (V.vtup x hx p hp).mono k, fun c hc => (V.con c hc).mono k, V.inn, V.cover, V.n3, V.n6⟩

theorem cellsLed {g h : Heap} {Sc : Sto Lab} {cells : List (Str × Addr)} {cm : Loc} (hL : Led g h Sc) (h1 : ∀ (j : Nat) (p : Str × Addr), cells[j]? = some p → Sc (41, j) = some (p.2, celP cm p.1)) :
    ∀ x a, cells.lookup x = some a → ∃ j, Sc (41, j) = some (a, celP cm x) ∧ ∀ y, cells.lookup y = some a → y = x := by
  intro x a e
  obtain ⟨j, hj⟩ := List.getElem?_of_mem (mem_of_lookup e)
  refine ⟨j, h1 j _ hj, fun y e' => ?_⟩
  obtain ⟨k, hk⟩ := List.getElem?_of_mem (mem_of_lookup e')
  have := hL.inj (41, j) (41, k) a _ _ (h1 j _ hj) (h1 k (y, a) hk)
  cases this
  rw [hk] at hj
  cases hj
  rfl

section
variable {w : World} {A : Around} {s : Shared} {env : Env} {E : Value → Shared → Prop}
/-- a built-in is called with one argument, whatever it raises -/
theorem cwE {pos : Pos} {id : String} {e : Expr} {Q : Value → Shared → Prop} (h : WA w A (eval e env) (fun v s' => wpAny (model Pr w) A (call (.builtin id) [v]) Q E s') s)
    (he : starEach [e] env = (false, eval e env) :: starEach [] env := by rfl) : wpAny (model Pr w) A (callWith pos (.builtin id) [] (backTo pos (starEach [e] env)) []) Q E s := by
  rw [he]
  unfold callWith
  refine wpAny_bind (wpAny_holding (evalArgs_plain (noE (spliced_cons (WA.mono h fun v s' h' => spliced_nil ?_)))))
  refine wpAny_bind (wpAny_standAt ?_)
  refine wpAny_bind (wpAny_pure ?_)
  refine wpAny_bind (wpAny_mono h' (fun r s₂ hr => wpAny_bind (wpAny_holding (wpAny_point (wpAny_pure hr)))) fun _ _ x => x)

/-- the generator function is called -/
theorem gen_call {oc : Value} {od an : Option Addr} {osl : Array (Option Value)} {name qual : Str} {params : Arguments} {body : List Stmt} {scope : Scope} {dV kV doc pm cdv ct : Value} (ho : (Kf w).lookup 169 = some ⟨oc, od, .func (fnOf name qual params body scope dV kV doc pm an cdv ct), osl⟩)
    {sv dm vc : Addr} {cv : Value} {Q : Value → Shared → Prop} (hA : A.depth < recursionLimit) (T : Stat w s.heap)
    (h : ∀ L ga s', Made s s' (genS L (cellsFrom (L + 1) scope.names []) (lo [("self", .ref sv)]) (lo [("domains", .ref dm), ("vconstraints", .ref vc)]) ga s.gens.size) →
      s'.gens[s.gens.size]? = some (.fresh (.func body (envX qual scope L 169 cdv (cellsFrom (L + 1) scope.names [])))) → Q (.ref ga) s') :
    WA w A (call (.ref 169) [.ref sv, .ref dm, cv, .ref vc]) Q s := by
  have h2 := ho.symm.trans (show (Kf w).lookup 169 = some _ from by exact rfl)
  have hb : BindsTo s (fnOf name qual params body scope dV kV doc pm an cdv ct) ⟨[.ref sv, .ref dm, cv, .ref vc], []⟩ [("self", .ref sv), ("domains", .ref dm), ("constraints", cv), ("vconstraints", .ref vc)] := by cases h2; exact BindsTo.of_eq rfl
  have hcd : codeIn (Kf w) cdv qual = true := by cases h2; kernel_rfl
  have hco : scope.isCoroutine = false := by cases h2; rfl
  have hgen : scope.isGenerator = true := by cases h2; rfl
  have hk : scope.kind = .function := by cases h2; rfl
  have hkind : ∀ n : Addr, ∀ x ∈ [(("self" : Str), Value.ref sv), ("domains", .ref dm), ("constraints", cv), ("vconstraints", .ref vc)], scope.names.lookup x.1 = some .local ∨ (scope.names.lookup x.1 = some .cell ∧ ((cellsFrom n scope.names []).lookup x.1).isSome = true) := by
    cases h2
    intro n x hx
    simp only [List.mem_cons, List.not_mem_nil, or_false] at hx
    rcases hx with rfl | rfl | rfl | rfl
    · exact .inl rfl
    · exact .inr ⟨rfl, rfl⟩
    · exact .inl rfl
    · exact .inr ⟨rfl, rfl⟩
  have hnd : ((cellsFrom 0 scope.names []).map (·.1)).Nodup := by cases h2; decide
  have hm : ∀ L : Addr, ∀ x v, (lo [("self", .ref sv)]).lookup x = some v → bindL (envX qual scope L 169 cdv (cellsFrom (L + 1) scope.names [])).kindOf [(("self" : Str), Value.ref sv), ("domains", .ref dm), ("constraints", cv), ("vconstraints", .ref vc)] (fun _ => none) x = some v := by
    cases h2
    intro L x v e
    have e' := mem_of_lookup e
    rw [List.mem_singleton] at e'
    cases e'
    rfl
  have hc : ∀ L : Addr, ∀ x v, (lo [("domains", .ref dm), ("vconstraints", .ref vc)]).lookup x = some v → bindC (envX qual scope L 169 cdv (cellsFrom (L + 1) scope.names [])).kindOf [(("self" : Str), Value.ref sv), ("domains", .ref dm), ("constraints", cv), ("vconstraints", .ref vc)] (fun _ => none) x = some v := by
    cases h2
    intro L x v e
    have e' := mem_of_lookup e
    rcases List.mem_cons.mp e' with e' | e'
    · cases e'; rfl
    · rw [List.mem_singleton] at e'
      cases e'
      rfl
  clear h2
  refine wpAny_call (codeAny_call_generator hA (T.K _ _ ho) rfl hco hgen rfl (codeRec_of T.K hcd) ?_)
  refine hb _ _ _ _ ?_
  refine wpAny_newFunctionEnv_cells hk (hkind _) fun env he s' x => ?_
  subst he
  refine ⟨T.nolimit.keeps x.toInCall.keep, ?_⟩
  obtain ⟨h', tk, e, keep⟩ := x.done
  have hgs : s'.gens = s.gens := by rw [e]
  have M := made_gen (gs := .fresh (.func body (envX qual scope s.heap.objs.size 169 cdv (cellsFrom (s.heap.objs.size + 1) scope.names [])))) (t := s'.toks + 1 + 1) (go := { cls := .type "generator", data := .fields #[.int s'.gens.size 0, .str name s'.toks, .str qual (s'.toks + 1)] }) (L := s.heap.objs.size) (cells := cellsFrom (s.heap.objs.size + 1) scope.names []) x (hm s.heap.objs.size) (hc s.heap.objs.size) (cellsFrom_names scope.names 0 (s.heap.objs.size + 1) [] [] rfl ▸ hnd) ⟨_, _, rfl, rfl, rfl⟩ rfl rfl
  refine h s.heap.objs.size s'.heap.objs.size _ ?_ ?_
  · rw [← hgs]; exact M
  · rw [← hgs]; exact Array.getElem?_push_size
end
end Mine
end

section
open PySem PySem.W PySem.Calls PyProof.Rows
namespace Mine

/-- frames around, and what a generator call has made -/
def outG (fr : List (Addr × Loc)) (G : Sto Lab) : Sto Lab := fun l => if l.1 < 40 then outS fr l else G l
theorem Has.slots {h h' : Heap} {a : Addr} {m : Loc} (x : Has h a (locP m)) (k : ∀ b o, h.get? b = some o → (∀ vs, o.data ≠ .fields vs) → ∃ sl, h'.get? b = some { o with slots := sl }) : Has h' a (locP m) := by
  obtain ⟨o, ho, es, ep, hd, hk, hf⟩ := x
  obtain ⟨sl, hs⟩ := k a o ho fun vs q => by rw [hd] at q; cases q
  exact ⟨_, hs, es, ep, hd, hk, hf⟩
theorem outS_led {g h h' : Heap} {fr : List (Addr × Loc)} (L : Led g h (outS fr)) (k : ∀ b o, h.get? b = some o → (∀ vs, o.data ≠ .fields vs) → ∃ sl, h'.get? b = some { o with slots := sl }) : Led g h' (outS fr) := by
  refine ⟨fun l a φ e => ?_, L.inj⟩
  have h1 := L.has l a φ e
  refine ⟨?_, h1.2⟩
  unfold outS at e
  split at e
  · obtain ⟨p, hp, hq⟩ := Option.map_eq_some_iff.mp e
    cases hq
    exact h1.1.slots k
  · cases e
theorem Led.sub {ι : Type} {g h : Heap} {S S' : Sto ι} (L : Led g h S) (k : ∀ l p, S' l = some p → S l = some p) : Led g h S' :=
  ⟨fun l a φ e => L.has l a φ (k _ _ e), fun l l' a φ φ' e e' => L.inj l l' a φ φ' (k _ _ e) (k _ _ e')⟩
theorem outS_cS {D : Nat → DA} {n : Nat} {Z : DSt} {fr : List (Addr × Loc)} {E : Sto Lab} (h : ∀ l p, outS fr l = some p → E l = some p) : ∀ l p, outS fr l = some p → cS D n Z E l = some p := by
  intro l p e
  have e0 := e
  unfold outS at e
  split at e
  · rename_i q
    unfold cS
    rw [if_neg (by rw [q]; decide)]
    exact h l p e0
  · cases e
theorem bare_set {b : Array GenState} {gi : Nat} {u : GenState} (h : AllBare b) (hu : u.bare = true) : AllBare (b.setIfInBounds gi u) := by
  intro y hy
  obtain ⟨i, hi⟩ := Array.getElem?_of_mem hy
  by_cases q : gi = i
  · subst q
    rw [Array.getElem?_setIfInBounds_self] at hi
    split at hi
    · cases hi; exact hu
    · cases hi
  · rw [Array.getElem?_setIfInBounds_ne q] at hi
    exact h y (Array.mem_of_getElem? hi)
theorem gens_keep {a b c : Array GenState} {gi : Nat} {u v : GenState} (h1 : a.size ≤ gi) (h2 : GenKeep a b) (hu : u.bare = true) (hv : v.bare = true) (h3 : GenKeep (b.setIfInBounds gi u) c) : GenKeep a (c.setIfInBounds gi v) := by
  refine ⟨?_, fun h => bare_set (h3.bare (bare_set (h2.bare h) hu)) hv⟩
  intro i x e
  have hi := (Array.getElem?_eq_some_iff.mp e).1
  have hne : i ≠ gi := by omega
  have h4 := h2.keep i x e
  have h5 : (b.setIfInBounds gi u)[i]? = some x := by rw [Array.getElem?_setIfInBounds_ne (Ne.symm hne)]; exact h4
  rw [Array.getElem?_setIfInBounds_ne (Ne.symm hne)]
  exact h3.keep i x h5
theorem GenKeep.size {a b : Array GenState} (h : GenKeep a b) : a.size ≤ b.size := by
  rcases Nat.eq_zero_or_pos a.size with q | q
  · omega
  · have h1 : a[a.size - 1]? = some (a[a.size - 1]'(by omega)) := Array.getElem?_eq_getElem _
    have := (Array.getElem?_eq_some_iff.mp (h.keep _ _ h1)).1
    omega
theorem fi_iter {w : World} : findIn (Kf w) (.ref 186) "getSolutionIter" = some (some (.ref 169)) := by kernel_rfl
theorem ty_169 {w : World} : typeIn (Kf w) (.ref 169) = some (.type "function") := by kernel_rfl
theorem gh_solv {w : World} : findIn (Kf w) (.ref 186) "__getattr__" = some none := by kernel_rfl
theorem lk_iter {w : World} (q : Nat × Nat) : lookIn "getSolutionIter" (dictOf [attrE w "_forwardcheck" q.1 (.bool true)] q.2) = some none := by kernel_rfl
theorem nb_next {w : World} : nsIn (Kf w) mainGlobals "next" = some none := by kernel_rfl
theorem bt_next : bootBuiltins "next" = some (.builtin "next") := by kernel_rfl
theorem nb_stop {w : World} : nsIn (Kf w) mainGlobals "StopIteration" = some none := by kernel_rfl
theorem bt_stop : bootBuiltins "StopIteration" = some (.type "StopIteration") := by kernel_rfl
theorem sub_stop : isSubtype (.type "StopIteration") (.type "BaseException") = pure true := by kernel_rfl
theorem sub_stop2 : isSubtype (.type ((Manifest.find? "StopIteration").elim "type" fun x => x.metatype)) (.type "tuple") = pure false := by kernel_rfl
theorem sub_stop3 : isSubtype (.type "StopIteration") (.type "StopIteration") = pure true := by kernel_rfl

section
variable {w : World} {A : Around} {s : Shared} {g : Heap} {D : Nat → DA} {n : Nat} {cs : List Con} {dm vc : Addr} {vl : Nat → Addr} {vcs : Nat → List (Addr × Con)}

theorem solve_spec {outer : List Env} {fr : List (Addr × Loc)} {sv sdx : Addr} {cv : Value} {Z : DSt} {Q : Value → Shared → Prop} (hA : Ok A 14) (hfr : A.frames = some outer) (hF : Fits outer fr) (hg : Sub g s.heap) (T : Stat w g)
    (V : SolvIn w g D n cs dm vc vl vcs) (gsv : g.get? sv = some (instObj 186 sdx)) (gsd : Has g sdx (SolvD w)) (hG : Good n cs [] Z) (hS : Led g s.heap (cS D n Z (outS fr)))
    (hN : ∀ s', (∀ σ, ¬ Sol n cs σ) → Chg g s s' → Led g s'.heap (outS fr) → Q .none s')
    (hY : ∀ st Z r s', Good n cs st Z → (∀ x, x < n → ¬ Free (asg st) x) → Chg g s s' → Led g s'.heap (updS (outS fr) (3, 0) (r, DicN w (asg st))) → (r == sysModules) = false → Q (.ref r) s') :
    codeAny (model Pr w) A (.call (.ref 176) ⟨[.ref sv, .ref dm, cv, .ref vc], []⟩) (Rv Q) s := by
  obtain ⟨osd, gsd', q, rfl⟩ := gsd
  refine r_enterC (binds := [("self", .ref sv), ("domains", .ref dm), ("constraints", cv), ("vconstraints", .ref vc)]) (by exact rfl) hA.room hg T (by kernel_rfl) (BindsTo.of_eq rfl) (by rfl) hS fun L s₁ S => ?_
  refine r_assign (r_callMeth (r_local S rfl (r_getMethod (S.stat T) (S.base gsv) ga_solv rfl gh_solv fi_iter ty_169 (.inl rfl) (.inr ⟨sdx, _, rfl, S.base gsd', lk_iter q⟩) ?_)))
  refine r_cw (args_cons (r_local S rfl (args_cons (r_local S rfl (args_cons (r_local S rfl (args_nil ⟨keeps_K (S.stat T).K (by kernel_rfl), ?_⟩))))))) 
  refine gen_call (by exact rfl) (hA.deeper (k := 13)).room (S.stat T) fun L' ga s' M hgen => ?_
  have hsz : s.gens.size ≤ s₁.gens.size := S.chg.gens.size
  generalize hcl : cellsFrom (L' + 1) _ [] = cells at M hgen
  have S := S.merge M (S'' := cS D n Z (outG fr (genS L' cells (lo [("self", .ref sv)]) (lo [("domains", .ref dm), ("vconstraints", .ref vc)]) ga s₁.gens.size))) ⟨id, fun l a φ e => by
    unfold cS outG at e
    unfold cS
    by_cases h : l.1 < 3
    · rw [if_pos h] at e; rw [if_pos h]; exact .inl e
    · rw [if_neg h] at e; rw [if_neg h]
      by_cases h2 : l.1 < 40
      · rw [if_pos h2] at e; exact .inl e
      · rw [if_neg h2] at e; exact .inr ⟨l, rfl, e⟩⟩
  have C1 := S.chg
  have S := S.rebase
  refine r_store S fun s₂ S => ?_
  have hgen := S.chg.gens.keep _ _ hgen
  have C2 : Chg g s s₂ := C1.trans S.chg
  generalize hgi : s₁.gens.size = gi at S hgen hsz
  refine r_seq (wpAny_Try_except (wpAny_execs_cons (wpAny_Return_some (wpAny_Call_Name_kw (noE (r_built (S.stat T) nb_next bt_next (cwE (r_local S rfl ?_))))))))
  have S3 : St ⟨g, L, [], s₂.setGen gi .running⟩ [] _ _ _ (s₂.setGen gi .running) := ⟨⟨S.chg.sub, .refl _, rfl, rfl⟩, S.own⟩
  obtain ⟨g', h1, h2, h3, h4, h5⟩ := S3.call2 (Sc := cS D n Z fun l => if l.1 = 40 ∨ l.1 = 41 then genS L' cells (lo [("self", .ref sv)]) (lo [("domains", .ref dm), ("vconstraints", .ref vc)]) ga gi l else none) (fun l p e => by
    unfold cS at e ⊢
    split at e
    · rename_i q; rw [if_pos q]; exact e
    · rename_i q; rw [if_neg q]
      dsimp only at e
      split at e
      · rename_i q2
        unfold outG
        rw [if_neg (by omega)]; exact e
      · cases e)
  have SG := St.ofLed (cells := cells) (S := cS D n Z noS2) (m := lo [("self", .ref sv)]) (cm := lo [("domains", .ref dm), ("vconstraints", .ref vc)]) h1 h3 rfl (cellsLed h3 fun j p hj => by
    show (if (41 : Nat) < 3 then _ else _) = _
    rw [if_neg (by decide)]
    show (if (41 : Nat) = 40 ∨ (41 : Nat) = 41 then _ else _) = _
    rw [if_pos (.inr rfl)]
    show (cells[j]?).map _ = _
    rw [hj]; rfl) (fun l p e => by
    unfold cS at e ⊢
    split at e
    · rename_i q; rw [if_pos q]; exact ⟨e, by omega⟩
    · cases e)
  refine next_gen (gi := gi) (PR := fun s' => (∀ σ, ¬ Sol n cs σ) ∧ Chg g' (s₂.setGen gi .running) s') (YR := fun v s' => ∃ st Z r, v = .ref r ∧ Good n cs st Z ∧ (∀ x, x < n → ¬ Free (asg st) x) ∧ Chg g' (s₂.setGen gi .running) s' ∧
    Led g' s'.heap (fun l : Lab => if l = (3, 0) then some (r, DicN w (asg st)) else none) ∧ (r == sysModules) = false) hA.hd (S.stat T).nolimit (hA.deeper (k := 13)).room ?_ hgen ?_ ?_ ?_
  · obtain ⟨o, ho, nm, qn, e1, e2, e3⟩ := S.at (l := (42, 0)) rfl
    exact ⟨o, nm, qn, ho, e1, e2, e3⟩
  · subst hcl
    exact gen_run (by exact rfl) ((hA.deeper (k := 13)).in1.in1.le (by decide)) (T.mono h2.get) (V.mono h2) (h2.get _ _ gsv) ⟨_, h2.get _ _ gsd', q, rfl⟩ hG SG (fun s' a b => ⟨a, b⟩) fun st Z r s' a b c d e => ⟨st, Z, r, rfl, a, b, c, d, e⟩
  · rintro v s₃ gs' hbare ⟨st, Z', r, rfl, a, b, c, d, e⟩
    have S4 := h5 _ _ c d
    refine hY st Z' r _ a b ⟨S4.chg.sub, gens_keep hsz C2.gens rfl hbare c.gens, c.drawn.trans C2.drawn, c.os.trans C2.os⟩ ?_ e
    refine S4.led.sub fun l p e => ?_
    unfold updS at e
    unfold over2
    by_cases q : l = (3, 0)
    · subst q
      rw [if_pos rfl] at e
      dsimp only
      rw [if_pos rfl]
      exact e
    · rw [if_neg q] at e
      dsimp only
      rw [if_neg q]
      have q3 : l.1 = 30 := by
        unfold outS at e
        split at e
        · assumption
        · cases e
      unfold cS outG
      simp only [q3]
      exact e
  · rintro s₃ ⟨a, c⟩ h' e oe vs tp he hcls hd h1' h0 hn keep
    have S4 := h5 _ (fun _ => none) c (Led.nil _ _)
    have O5 := S4.own.grow (h' := h') ⟨keep⟩
    have sub5 : Sub g h' := S4.chg.sub.trans ⟨keep⟩
    obtain ⟨nL, oL, hoL, esL, epL, hdL, _⟩ := O5.has .loc _ _ rfl
    have led5 : Led g h' (outS fr) := by
      refine Led.sub (S := over2 _ (fun _ => none) _) ⟨fun l a φ e => ⟨(O5.has (.lab l) a φ e).2, (O5.has (.lab l) a φ e).1⟩, fun l l' a φ φ' e e' => by have := O5.inj (.lab l) (.lab l') a φ φ' e e'; cases this; rfl⟩ fun l p e => ?_
      unfold over2
      have q3 : l.1 = 30 := by
        unfold outS at e
        split at e
        · assumption
        · cases e
      unfold cS outG
      simp only [q3]
      exact e
    refine note_first (base := g) (L := L) (Around.frames_deeper hfr) ⟨(by intro q; cases q), ⟨L, oL, rfl, nL, hoL, fun vs q => by rw [hdL] at q; cases q⟩, funFrames hF (out_mem led5 fun l p e => e)⟩ rfl he (fun b o hb => sub5.get b o hb) (S4.chg.sub.none hn) hd h1' h0 fun h'' hleft => ?_
    obtain ⟨k1, k2, k3, k4⟩ := hleft
    obtain ⟨oe', hoe', hcl'⟩ := k3.at.there
    refine wpAny_handleBy_builtin (b := true) sub_stop sub_stop2 sub_stop3 (noE (r_built (T.mono k1) nb_stop bt_stop ⟨rfl, ⟨oe', hoe', hcl'.trans hcls⟩, ?_⟩))
    rw [if_pos rfl]
    refine wpAny_setFlight_noneW k1 k2 k3.at fun h3 k5 k6 k7 k8 => ?_
    refine noE (r_ret (r_none ?_))
    refine hN _ a ⟨⟨k5⟩, gens_keep hsz C2.gens rfl rfl c.gens, c.drawn.trans C2.drawn, c.os.trans C2.os⟩ ?_
    exact outS_led (outS_led led5 k4) fun b o hb hnf => ⟨o.slots, k8 b o hb hnf⟩
end
end Mine
end

section
open PySem PySem.W PySem.Calls PyProof.Rows
namespace Mine

inductive AttrsE (w : World) : List DictEntry → List (Str × Value) → Prop
  | nil : AttrsE w [] []
  | cons {es : List DictEntry} {l : List (Str × Value)} (name : Str) (t : Nat) (v : Value) : AttrsE w es l → AttrsE w (attrE w name t v :: es) ((name, v) :: l)
/-- the dict of an object: its attributes in order -/
def AttrL (w : World) (l : List (Str × Value)) (o : Obj) : Prop := ∃ es n, AttrsE w es l ∧ o = dictOf es n
theorem AttrsE.len {w : World} : ∀ {es : List DictEntry} {l : List (Str × Value)}, AttrsE w es l → es.length = l.length
  | _, _, .nil => rfl
  | _, _, .cons _ _ _ h => by simp [h.len]
theorem isStr_str (a b : Str) (t : Nat) : (Value.str a t).isStr b = (a == b) := rfl
theorem AttrsE.put {w : World} {name : Str} {t : Nat} {v : Value} : ∀ {es : List DictEntry} {l : List (Str × Value)}, AttrsE w es l → (∀ p ∈ l, p.1 ≠ name) →
    AttrsE w (putL name (PyData.keyHash w.params name) (.str name t) v es) (l ++ [(name, v)])
  | _, _, .nil, _ => .cons name t v .nil
  | _, _, .cons n u x h, hn => by
    have h1 : (n == name) = false := by rw [beq_eq_false_iff_ne]; exact hn _ List.mem_cons_self
    show AttrsE w (if (Value.str n u).isStr name then _ else _) _
    rw [isStr_str, h1]
    exact .cons n u x (h.put fun p hp => hn p (List.mem_cons_of_mem _ hp))
theorem AttrsE.get {w : World} {name : Str} : ∀ {es : List DictEntry} {l : List (Str × Value)}, AttrsE w es l → (∀ p ∈ l, p.1 ≠ name) → getL name es = some none := by
  intro es l h hn
  have h1 : es.find? (·.key.isStr name) = none := by
    induction h with
    | nil => rfl
    | cons n u x h ih =>
      have h1 : (n == name) = false := by rw [beq_eq_false_iff_ne]; exact hn _ List.mem_cons_self
      rw [List.find?_cons]
      show (match (Value.str n u).isStr name with | true => _ | false => _) = _
      rw [isStr_str, h1]
      exact ih fun p hp => hn p (List.mem_cons_of_mem _ hp)
  have h2 : es.any (·.refKey) = false := by
    clear h1
    induction h with
    | nil => rfl
    | cons n u x h ih => rw [List.any_cons, ih fun p hp => hn p (List.mem_cons_of_mem _ hp)]; rfl
  unfold getL
  rw [h1, h2]; rfl
theorem AttrL.empty {w : World} : AttrL w [] emptyDict := ⟨[], 0, .nil, rfl⟩

theorem Ok.under {A : Around} {k : Nat} {C : Addr} {vals : List Value} (h : Ok A (k + 1)) : Ok (A.under (.builtin "type.__call__" ⟨.ref C :: vals, []⟩)) k := by
  refine ⟨h.hd, ?_, ?_⟩
  · have := h.dep
    have e : (A.under (.builtin "type.__call__" ⟨.ref C :: vals, []⟩)).depth = A.depth + 1 := rfl
    omega
  · have := h.un
    have e : (A.under (.builtin "type.__call__" ⟨.ref C :: vals, []⟩)).units = A.units + 1 := rfl
    omega

section
variable {w : World} {A : Around} {s : Shared} {env : Env} {ι : Type} {c : Cx} {P : List (Addr × (Obj → Prop))} {m cm : Loc} {S : Sto ι}

/-- a new attribute is stored -/
theorem s_attr [DecidableEq ι] {x dx C : Addr} {ox : Obj} {name : Str} {v : Value} {l : List (Str × Value)} {lab : ι} {Q : Unit → Shared → Prop} (X : St c P m cm S s) (T : Stat w s.heap) (Z : SA w C name) (hx : s.heap.get? x = some ox) (hcl : ox.cls = .ref C)
    (hd : ox.dict = some dx) (hno : notCls ox = true) (e : S lab = some (dx, AttrL w l)) (hn : (l.all fun p => decide (p.1 ≠ name)) = true) (hl : l.length ≤ 100) (h : ∀ s', St c P m cm (updS S lab (dx, AttrL w (l ++ [(name, v)]))) s' → Q () s') : WA w A (setAttr (.ref x) name v) Q s := by
  have hn : ∀ p ∈ l, p.1 ≠ name := fun p hp => of_decide_eq_true (List.all_eq_true.mp hn p hp)
  obtain ⟨_, hdx, es, n, E, rfl⟩ := X.at e
  refine set_attr T Z hx hcl hd hno hdx (by rw [E.get hn]; rfl) (fun t => by have := (E.put (t := t) (v := v) hn).len; rw [this]; simp; omega) fun h' tk t h1 h2 => ?_
  exact h _ (X.set (t := tk) e ⟨_, h1, _, _, E.put hn, rfl⟩ h2)

/-- an object is made -/
theorem make_inst {C fI : Addr} {args : List Value} {Q : Value → Shared → Prop} (hm : makesIn (Kf w) C = true) (hi : findIn (Kf w) (.ref C) "__init__" = some (some (.ref fI))) (hf : typeIn (Kf w) (.ref fI) = some (.type "function")) (T : Stat w s.heap)
    (h : ∀ g s₁ x dx A', (∀ k, Ok A (k + 1) → Ok A' k) → Sub s.heap g → Sub g s₁.heap → g.get? x = some (instObj C dx) → s.heap.get? x = none → s.heap.get? dx = none → Led g s₁.heap (listS [(dx, AttrL w [])]) → Grow s s₁ →
      codeAny (model Pr w) A' (.call (.ref fI) ⟨.ref x :: args, []⟩) (Rv fun v s' => v = .none ∧ Q (.ref x) s') s₁) : WA w A (call (.ref C) args) Q s := by
  obtain ⟨hh, gg, dd, tt, os⟩ := s
  refine wpAny_call ?_
  refine make_core (makes_of T.K hm) (looks_findIn T.K hi) (fun self => bind_fn T.K self hf) (.inl rfl) ?_
  have e1 : ((hh.push emptyDict).push (instObj C hh.objs.size)).get? (hh.objs.size + 1) = some (instObj C hh.objs.size) := by
    have := Heap.get?_push_size (hh.push emptyDict) (o := instObj C hh.objs.size) rfl
    rwa [Heap.size_push] at this
  have e2 : ((hh.push emptyDict).push (instObj C hh.objs.size)).get? hh.objs.size = some emptyDict := Heap.get?_push_of_some _ (Heap.get?_push_size hh rfl)
  have keep : Sub hh ((hh.push emptyDict).push (instObj C hh.objs.size)) := (Sub.push _ _).trans (Sub.push _ _)
  have H := hide_get ((hh.push emptyDict).push (instObj C hh.objs.size)) (· = hh.objs.size)
  refine codeAny_mono (h (hide ((hh.push emptyDict).push (instObj C hh.objs.size)) (· = hh.objs.size)) ⟨(hh.push emptyDict).push (instObj C hh.objs.size), gg, dd, tt, os⟩ (hh.objs.size + 1) hh.objs.size _ (fun k hk => hk.under) ⟨fun a o e => ?_⟩ ⟨fun a o e => ?_⟩ ?_ (Heap.get?_none_of_le (Nat.le_succ _)) (Heap.get?_none_of_le (Nat.le_refl _)) ?_ ⟨keep, .refl _, rfl, rfl⟩) fun r s' z => ?_
  · rw [(H a).2 (fun q => by subst q; exact absurd (Heap.lt_size e) (Nat.lt_irrefl _))]
    exact keep.get _ _ e
  · by_cases q : a = hh.objs.size
    · rw [(H a).1 q] at e; cases e
    · rw [(H a).2 q] at e; exact e
  · rw [(H _).2 (Nat.succ_ne_self _)]; exact e1
  · refine Led.list (fun p hp => ?_) (by simp)
    rw [List.mem_singleton] at hp
    subst hp
    exact ⟨⟨_, e2, .empty⟩, (H _).1 rfl⟩
  · rcases r with e | (_ | _ | _ | _) <;> exact z
end
end Mine
end

section
open PySem PySem.W PySem.Calls PyProof.Rows
namespace Mine

theorem msD_of {w : World} {ms : Int} {t : Tok} {o : Obj} (h : AttrL w [("_maxsum", .int ms t), ("_multipliers", .none)] o) : MsD w ms o := by
  obtain ⟨es, n, E, rfl⟩ := h
  cases E with
  | cons nm t1 v1 E =>
    cases E with
    | cons nm2 t2 v2 E =>
      cases E
      exact ⟨(t1, t2, n), t, rfl⟩
theorem sisD_of {w : World} {st : Addr} {nn : Int} {t : Tok} {o : Obj} (h : AttrL w [("_set", .ref st), ("_n", .int nn t), ("_exact", .bool false)] o) : SisD w st nn o := by
  obtain ⟨es, n, E, rfl⟩ := h
  cases E with
  | cons nm t1 v1 E =>
    cases E with
    | cons nm2 t2 v2 E =>
      cases E with
      | cons nm3 t3 v3 E =>
        cases E
        exact ⟨(t1, t2, t3, n), t, rfl⟩
theorem saMS {w : World} : SA w 371 "_maxsum" := sa_plain (by kernel_rfl) (by kernel_rfl) (by kernel_rfl) (by kernel_rfl)
theorem saMM {w : World} : SA w 371 "_multipliers" := sa_plain (by kernel_rfl) (by kernel_rfl) (by kernel_rfl) (by kernel_rfl)
theorem saSS {w : World} : SA w 399 "_set" := sa_plain (by kernel_rfl) (by kernel_rfl) (by kernel_rfl) (by kernel_rfl)
theorem saSN {w : World} : SA w 399 "_n" := sa_plain (by kernel_rfl) (by kernel_rfl) (by kernel_rfl) (by kernel_rfl)
theorem saSE {w : World} : SA w 399 "_exact" := sa_plain (by kernel_rfl) (by kernel_rfl) (by kernel_rfl) (by kernel_rfl)

section
variable {w : World} {A : Around} {s : Shared} {env : Env}

theorem new_max {ms : Int} {t : Tok} {Q : Value → Shared → Prop} (hA : Ok A 3) (T : Stat w s.heap)
    (h : ∀ s' x dx, Grow s s' → s'.heap.get? x = some (instObj 371 dx) → Has s'.heap dx (MsD w ms) → s.heap.get? x = none → s.heap.get? dx = none → x ≠ dx → Q (.ref x) s') : WA w A (call (.ref 371) [.int ms t]) Q s := by
  refine make_inst (fI := 353) (by kernel_rfl) (by kernel_rfl) (by kernel_rfl) T fun g s₁ x dx A' hA' g1 g2 gx nx nd L G => ?_
  have Tg := T.mono g1.get
  refine r_enterC (binds := [("self", .ref x), ("maxsum", .int ms t), ("multipliers", .none)]) (by exact rfl) (hA' _ hA).room g2 Tg (by kernel_rfl) (BindsTo.of_defaults rfl ((Tg.mono g2.get).K 346 _ (by exact rfl)) rfl rfl rfl) (by rfl) L fun Lc s₂ S => ?_
  refine r_assignAttr (r_local S rfl (r_local S rfl (s_attr (lab := 0) S (S.stat Tg) saMS (S.base gx) rfl rfl rfl rfl (by rfl) (by simp) fun s₂ S => ?_)))
  refine r_assignAttr (r_local S rfl (r_local S rfl (s_attr (lab := 0) S (S.stat Tg) saMM (S.base gx) rfl rfl rfl rfl (by rfl) (by simp) fun s₂ S => ?_)))
  have hd := S.at (l := 0) rfl
  refine r_nil ⟨rfl, h _ x dx ⟨g1.trans S.chg.sub, S.chg.gens.trans G.gens, S.chg.drawn.trans G.drawn, S.chg.os.trans G.os⟩ (S.base gx) ?_ nx nd fun q => ?_⟩
  · obtain ⟨o, ho, ha⟩ := hd
    exact ⟨o, ho, msD_of ha⟩
  · have := S.fresh (l := 0) rfl
    rw [← q, gx] at this; cases this
theorem new_some {st : Addr} {nn : Int} {t : Tok} {args : List Value} {Q : Value → Shared → Prop} (hA : Ok A 3) (T : Stat w s.heap) (ha : args = [.ref st, .int nn t])
    (h : ∀ s' x dx, Grow s s' → s'.heap.get? x = some (instObj 399 dx) → Has s'.heap dx (SisD w st nn) → s.heap.get? x = none → s.heap.get? dx = none → x ≠ dx → Q (.ref x) s') : WA w A (call (.ref 399) args) Q s := by
  subst ha
  refine make_inst (fI := 388) (by kernel_rfl) (by kernel_rfl) (by kernel_rfl) T fun g s₁ x dx A' hA' g1 g2 gx nx nd L G => ?_
  have Tg := T.mono g1.get
  refine r_enterC (binds := [("self", .ref x), ("members", .ref st), ("n", .int nn t), ("exact", .bool false)]) (by exact rfl) (hA' _ hA).room g2 Tg (by kernel_rfl) (BindsTo.of_defaults rfl ((Tg.mono g2.get).K 381 _ (by exact rfl)) rfl rfl rfl) (by rfl) L fun Lc s₂ S => ?_
  refine r_assignAttr (r_local S rfl (r_local S rfl (s_attr (lab := 0) S (S.stat Tg) saSS (S.base gx) rfl rfl rfl rfl (by rfl) (by simp) fun s₂ S => ?_)))
  refine r_assignAttr (r_local S rfl (r_local S rfl (s_attr (lab := 0) S (S.stat Tg) saSN (S.base gx) rfl rfl rfl rfl (by rfl) (by simp) fun s₂ S => ?_)))
  refine r_assignAttr (r_local S rfl (r_local S rfl (s_attr (lab := 0) S (S.stat Tg) saSE (S.base gx) rfl rfl rfl rfl (by rfl) (by simp) fun s₂ S => ?_)))
  have hd := S.at (l := 0) rfl
  refine r_nil ⟨rfl, h _ x dx ⟨g1.trans S.chg.sub, S.chg.gens.trans G.gens, S.chg.drawn.trans G.drawn, S.chg.os.trans G.os⟩ (S.base gx) ?_ nx nd fun q => ?_⟩
  · obtain ⟨o, ho, ha⟩ := hd
    exact ⟨o, ho, sisD_of ha⟩
  · have := S.fresh (l := 0) rfl
    rw [← q, gx] at this; cases this
end
end Mine
end

section
open PySem PySem.W PySem.Calls PyProof.Rows Builtin
namespace Mine

abbrev domObj (dx : Addr) : Obj := { cls := .ref 264, dict := some dx, data := .seq #[] }
def domMakes (K : Frag) : Bool := match K.lookup 264 with
  | some ⟨_, _, .cls cd, sl⟩ => !cd.abstract && !cd.hasDel && (sl.toList[4]?).join == some (.builtin "list.__new__") && !cd.mro.isEmpty && cd.mro.contains (.ref 264) && cd.mro.contains (.type "list") && cd.hasDict &&
      specialIn K (.ref 264) "__call__" == some (some (.builtin "type.__call__")) && instIn K (.ref 264) (.type "type") == some true
  | _ => false
theorem domMakes_ok {w : World} : domMakes (Kf w) = true := by kernel_rfl
theorem ln_args (a b : Value) : argsOk "list.__new__" ⟨[a, b], []⟩ := by unfold argsOk; kernel_rfl
theorem ln_args2 (a : Addr) (b : Value) : argsOk "list.__new__" ⟨[.ref a, b], []⟩ := by unfold argsOk; kernel_rfl
theorem ln_kind : builtinKind "list.__new__" = some .builtinFn := by decide +kernel
theorem ln_split : splitId "list.__new__" = some ("list", "__new__") := by decide +kernel
structure DomM (M : Model) (h : Heap) : Prop where
  obj : ∃ oc od cd sl, h.get? 264 = some ⟨oc, od, .cls cd, sl⟩ ∧ cd.abstract = false ∧ cd.hasDel = false ∧ cd.mro.isEmpty = false ∧ cd.hasDict = true
  made : Looks M h (Bind.madeBy (.ref 264)) (some "list.__new__")
  base : Looks M h (Bind.staticBase (.ref 264)) (.ref 264)
  self : Looks M h (isSubtype (.ref 264) (.ref 264)) true
  top : Looks M h (isSubtype (.ref 264) (.type "list")) true
  call : Looks M h (specialOf (.ref 264) "__call__") (some (.builtin "type.__call__"))
  typ : Looks M h (isInstance (.ref 264) (.type "type")) true
theorem domM_of {w : World} {M : Model} {h : Heap} (X : (Kf w).In h) : DomM M h := by
  have e := domMakes_ok (w := w)
  unfold domMakes at e
  split at e
  · rename_i oc od cd sl ho
    simp only [Bool.and_eq_true, Bool.not_eq_true', beq_iff_eq] at e
    obtain ⟨⟨⟨⟨⟨⟨⟨⟨e1, e2⟩, e3⟩, e4⟩, e5⟩, e6⟩, e9⟩, e7⟩, e8⟩ := e
    have hc : clsIn (Kf w) 264 = some cd := by unfold clsIn; rw [ho]
    have hm : Looks M h (mroOf (.ref 264)) cd.mro := (looks_clsIn X hc).andThen .now
    obtain ⟨c, l, hl⟩ : ∃ c l, cd.mro = c :: l := by cases q : cd.mro with | nil => rw [q] at e4; cases e4 | cons c l => exact ⟨c, l, rfl⟩
    have made : Looks M h (Bind.madeBy (.ref 264)) (some "list.__new__") := by
      intro A Q E s k q
      unfold Bind.madeBy
      refine wpAny_bind (hm A _ E s k ?_)
      rw [hl, List.forIn_cons]
      refine wpAny_bind (wpAny_bind (wpAny_bind (wpAny_bind (wpAny_loadPart (k _ _ (X _ _ ho)) (wpAny_pure ?_)))))
      dsimp only
      rw [← Array.getElem?_toList, e3]
      exact wpAny_pure (wpAny_pure (wpAny_pure q))
    refine ⟨⟨oc, od, cd, sl, X _ _ ho, e1, e2, e4, e9⟩, made, ?_, looks_mroIn X ?_, looks_mroIn X ?_, looks_specialIn X e7, looks_instIn X e8⟩
    · intro A Q E s k q
      unfold Bind.staticBase
      refine wpAny_bind (hm A _ E s k ?_)
      rw [hl, List.forIn_cons]
      exact wpAny_bind (wpAny_bind (wpAny_bind (made A _ E s k (wpAny_pure (wpAny_pure (wpAny_pure q))))))
    · unfold mroIn; rw [hc, Option.bind_some, if_neg (by rw [e4]; decide), e5]
    · unfold mroIn; rw [hc, Option.bind_some, if_neg (by rw [e4]; decide), e6]
  · cases e

section
variable {prog : Program} {w : World} {A : Around} {R : Result → Shared → Prop} {h : Heap} {g : Array GenState} {d : Drawn} {t : Nat} {os : OsState}
theorem newDom {v : Value} (Y : DomM (model Pr w) h)
    (hq : R (.ok (.ret (.ref (h.objs.size + 1)))) ⟨(h.push emptyDict).push (domObj h.objs.size), g, d, t, os⟩) :
    codeAny (model Pr w) A (.call (.builtin "list.__new__") ⟨[.ref 264, v], []⟩) R ⟨h, g, d, t, os⟩ := by
  obtain ⟨⟨oc, od, cd, sl, hC, e1, e2, e4, e9⟩, made, base, self, top, call, typ⟩ := Y
  refine codeAny_of_tree ?_
  show wpAny _ A.in1 (do checkBuiltinCall "list.__new__" ⟨[.ref 264, v], []⟩; again (.builtin "list.__new__" ⟨[.ref 264, v], []⟩)) _ _ _
  refine wpAny_bind ?_
  simp only [checkBuiltinCall, ln_kind, ln_split]
  have hargs := ln_args2 264 v
  unfold argsOk at hargs
  have hown := owner_list_new
  have fin : (Code.builtin "list.__new__" ⟨[.ref 264, v], []⟩).quiet = true ∧ codeAny (model Pr w) A (.builtin "list.__new__" ⟨[.ref 264, v], []⟩) R ⟨h, g, d, t, os⟩ := by
    refine ⟨plainId_quiet F.plain_list_new _, codeAny_builtin_stack F.entry_list_new rfl fun p st => ?_⟩
    rw [Around.under_plainId F.plain_list_new _]
    simp only [hown]
    have top' := top
    repeat (first | simp only [bne_self_eq_false, Bool.false_eq_true, if_false, Bool.not_true] | lk)
    refine wpAny_load (Heap.get?_push_of_some _ (Heap.get?_push_of_some _ hC)) (wpAny_pure ?_)
    rw [e2]
    refine wpAny_pure (wpAny_pure ?_)
    show R _ _
    rw [Heap.size_push]
    exact hq
  cases hsig : Manifest.signature? "list.__new__" with
  | none =>
    repeat (first | exact fin | simp only [bne_self_eq_false, Bool.false_eq_true, if_false] | lk)
  | some sig =>
    rw [hsig] at hargs
    dsimp only at hargs ⊢
    rw [hargs]
    repeat (first | exact fin | simp only [bne_self_eq_false, Bool.false_eq_true, if_false] | lk)

/-- a domain is made, and __init__ is called -/
theorem dom_core {v : Value} (T : Stat w h)
    (hq : codeAny (model Pr w) (A.under (.builtin "type.__call__" ⟨[.ref 264, v], []⟩)) (.call (.ref 233) ⟨[.ref (h.objs.size + 1), v], []⟩) (InitBack (h.objs.size + 1) R) ⟨(h.push emptyDict).push (domObj h.objs.size), g, d, t, os⟩) :
    codeAny (model Pr w) A (.call (.ref 264) ⟨[v], []⟩) R ⟨h, g, d, t, os⟩ := by
  have Y := domM_of (M := model Pr w) T.K
  have Y' := Y
  have hi : Looks (model Pr w) h (typeLookup (.ref 264) "__init__") (some (.ref 233)) := looks_findIn T.K (by kernel_rfl)
  have hb : ∀ self, Looks (model Pr w) h (bindSpecial (.ref 233) self) (.ref 233, [self]) := fun self => bind_fn T.K self (by kernel_rfl)
  obtain ⟨⟨oc, od, cd, sl, hC, e1, e2, e4, e9⟩, made, base, self, top, call, typ⟩ := Y
  refine codeAny_of_tree ?_
  show wpAny _ _ (callAny (.ref 264) _) _ _ _
  refine nd_load hC ?_
  show wpAny _ _ (callAny.viaDunder (.ref 264) _) _ _ _
  unfold callAny.viaDunder
  refine wpAny_bind (call.at ?_)
  dsimp only
  rw [tc_bind]
  refine wpAny_bind (wpAny_pure (wpAny_bind (wpAny_pure ?_)))
  refine wpAny_pure (a := Fin.again (.call (.builtin "type.__call__") ⟨[.ref 264, v], []⟩)) (And.intro rfl ?_)
  refine codeAny_call_builtin_at (Code.quiet_builtin _ (by decide +kernel)) entry_typeCall (check_slot tc_kind tc_split typ (tc_args _ _ _) ?_)
  unfold Builtin.«type.__call__»
  have hm : Looks (model Pr w) h (mroOf (.ref 264)) cd.mro := ((Looks.ld (part := none) hC).andThen .now).andThen .now
  repeat (first | simp only [e4, Bool.false_eq_true, if_false] | with_reducible refine wpAny_call ?_ | lk)
  refine newDom Y' ?_
  have k : ∀ b o, h.get? b = some o → ((h.push emptyDict).push (domObj h.objs.size)).get? b = some o := fun b o e => Heap.get?_push_of_some _ (Heap.get?_push_of_some _ e)
  have hx : ((h.push emptyDict).push (domObj h.objs.size)).get? (h.objs.size + 1) = some (domObj h.objs.size) := by heap_get
  have t1 : Looks (model Pr w) ((h.push emptyDict).push (domObj h.objs.size)) (typeOf (.ref (h.objs.size + 1))) (.ref 264) := (Looks.ld hx).andThen .now
  have s1 := self.keeps k
  have i1 := hi.keeps k
  have b1 := (hb (.ref (h.objs.size + 1))).keeps k
  unfold isInstance callSpecial? specialOf
  repeat (first | with_reducible refine wpAny_call ?_ | lk)
  refine codeAny_mono hq fun r s' z => ?_
  rcases r with e | (v | _ | _ | _) <;> first | exact z | exact z.elim | skip
  obtain ⟨rfl, z⟩ := z
  exact wpAny_pure (wpAny_pure z)
end
end Mine
end

section
open PySem PySem.W PySem.Calls PyProof.Rows Builtin
namespace Mine

theorem saDH {w : World} : SA w 264 "_hidden" := ⟨by kernel_rfl, ⟨_, by exact rfl, by rfl, by rfl, by rfl, fun self => by kernel_rfl⟩, by kernel_rfl⟩
theorem saDS {w : World} : SA w 264 "_states" := ⟨by kernel_rfl, ⟨_, by exact rfl, by rfl, by rfl, by rfl, fun self => by kernel_rfl⟩, by kernel_rfl⟩
section
variable {w : World} {A : Around} {s : Shared} {env : Env}
theorem m_listInit {pl : Sem Bool} {Q : Value × List Value → Shared → Prop} (T : Stat w s.heap) (h : ∀ s', Grow s s' → Q (.builtin "list.__init__", []) s') : WA w A (getMethod (.type "list") "__init__" pl) Q s := by
  have L0 : Looks (model Pr w) s.heap (typeOf (.type "list")) (.type "type") := Looks.of_pure (kitMeta_of (by decide +kernel))
  have hg : findIn (Kf w) (.type "type") "__getattribute__" = some (some (.builtin "type.__getattribute__")) := type_tga
  unfold getMethod specialOf
  refine wpAny_bind (wpAny_bind (L0.here ((looks_findIn T.K hg).here ?_)))
  dsimp only
  rw [if_pos canon_tga]
  refine wpAny_bind ?_
  have hstub : opaqueClassAbove (.type "list") = pure none := by unfold opaqueClassAbove; kernel_rfl
  refine cls_open T.K (Looks.of_pure hstub) L0 hg (looks_hook T.K (r := none) (by rfl)) (by show subIn _ _ _ = _; rfl) (show findCls (Kf w) (.type "list") (.type "type") "__init__" = some (.val (.builtin "list.__init__")) from by kernel_rfl) ?_
  refine wpAny_pure ?_
  show wpAny _ _ (handedOut _) _ _ _
  rw [handedOut_of (by rfl)]
  exact wpAny_pure (wpAny_pure (h _ (Grow.tok _ _)))

theorem b_listInit {d l : Addr} {dd : Option Addr} {ys : List Value} {Q : Value → Shared → Prop} (T : Stat w s.heap) (ho : Has s.heap d (IsSeq (.ref 264) dd [])) (hl : Has s.heap l (LstI ys)) (hne : d ≠ l) (hz : ys.length ≤ 900)
    (h : ∀ h', Has h' d (IsSeq (.ref 264) dd ys) → Heap.SameBut d s.heap h' → Q .none { s with heap := h' }) : WA w A (call (.builtin "list.__init__") [.ref d, .ref l]) Q s := by
  obtain ⟨n, ho'⟩ := ho.out
  obtain ⟨k, hl'⟩ := hl.out
  refine wpAny_call (codeAny_meth (owner := "list") (n := "__init__") (b := Builtin.«list.__init__») T ho' (sub_dom T.K) (by decide +kernel) (by decide +kernel) F.entry_list_init (by decide +kernel) (F.args_list_init_2 _ _) ?_)
  show wpAny _ _ (do let old ← Builtin.List.listItems (.ref d); Builtin.List.listUpdate (.ref d) (fun _ => #[]); letGo old.toList.reverse; Builtin.List.listExtendWith (.ref d) (.ref l) .none) _ _ s
  refine wpAny_bind (wpAny_bind (wpAny_seqItems ho' rfl (wpAny_pure ?_)))
  show wpAny _ _ (updateSeq d (fun _ => #[]) >>= fun _ => letGo (#[] : Array Value).toList.reverse >>= fun _ => Builtin.List.listExtendWith (.ref d) (.ref l) .none) _ _ s
  refine wpAny_bind (b_update ho (by simp) (by simp) fun h1 h2 h3 => wpAny_bind (wpAny_letGo ?_))
  obtain ⟨n1, h2'⟩ := h2.out
  have hl1 : Has h1 l (LstI ys) := by
    obtain ⟨o, e, z⟩ := hl
    exact ⟨o, (h3.2 l (Ne.symm hne)).trans e, z⟩
  obtain ⟨k1, hl1'⟩ := hl1.out
  unfold Builtin.List.listExtendWith
  refine wpAny_bind (Looks.here (r := .type "list") ((Looks.ld hl1').andThen .now) ?_)
  rw [if_pos (by simp)]
  refine wpAny_bind (wpAny_bind (wpAny_seqItems hl1' rfl (wpAny_pure ?_)))
  refine wpAny_bind (wpAny_bind (wpAny_seqItems h2' rfl (wpAny_pure ?_)))
  rw [if_neg (by simp)]
  show wpAny _ _ (updateSeq d (· ++ ys.toArray) >>= fun _ => ret .none) _ _ _
  refine wpAny_bind (b_update h2 (by simp) (by simp; omega) fun h4 h5 h6 => wpAny_pure (h h4 (by simpa using h5) (h3.trans h6)))

theorem domI_of {w : World} {hi si : Addr} {o : Obj} (h : AttrL w [("_hidden", .ref hi), ("_states", .ref si)] o) : DomDI w hi si o := by
  obtain ⟨es, n, E, rfl⟩ := h
  cases E with
  | cons nm t1 v1 E =>
    cases E with
    | cons nm2 t2 v2 E =>
      cases E
      exact ⟨(t1, t2, n), rfl⟩

theorem Led.weak {ι : Type} {g h : Heap} {S S' : Sto ι} (L : Led g h S) (k : ∀ l a φ', S' l = some (a, φ') → ∃ φ, S l = some (a, φ) ∧ ∀ o, φ o → φ' o) : Led g h S' :=
  ⟨fun l a φ' e => let ⟨φ, e1, e2⟩ := k l a φ' e; let ⟨⟨o, ho, hφ⟩, hn⟩ := L.has l a φ e1; ⟨⟨o, ho, e2 o hφ⟩, hn⟩,
   fun l l' a φ φ' e e' => let ⟨_, e1, _⟩ := k l a φ e; let ⟨_, e2, _⟩ := k l' a φ' e'; L.inj l l' a _ _ e1 e2⟩
theorem nb_list {w : World} : nsIn (Kf w) mainGlobals "list" = some none := by kernel_rfl
theorem bt_list : bootBuiltins "list" = some (.type "list") := by kernel_rfl
/-- Domain(l) -/
theorem new_dom {l : Addr} {ys : List Value} {Q : Value → Shared → Prop} (hA : Ok A 6) (T : Stat w s.heap) (hl : Has s.heap l (LstI ys)) (hz : ys.length ≤ 100)
    (h : ∀ s' x dx hi si, Made s s' (listS [(x, DomI dx ys), (dx, DomDI w hi si), (hi, LstI []), (si, LstI [])]) → Q (.ref x) s') : WA w A (call (.ref 264) [.ref l]) Q s := by
  obtain ⟨hh, gg, dd, tt, os⟩ := s
  refine wpAny_call (dom_core T ?_)
  have e1 : ((hh.push emptyDict).push (domObj hh.objs.size)).get? (hh.objs.size + 1) = some (domObj hh.objs.size) := by
    have := Heap.get?_push_size (hh.push emptyDict) (o := domObj hh.objs.size) rfl
    rwa [Heap.size_push] at this
  have e2 : ((hh.push emptyDict).push (domObj hh.objs.size)).get? hh.objs.size = some emptyDict := Heap.get?_push_of_some _ (Heap.get?_push_size hh rfl)
  have keep : Sub hh ((hh.push emptyDict).push (domObj hh.objs.size)) := (Sub.push _ _).trans (Sub.push _ _)
  have L0 : Led hh ((hh.push emptyDict).push (domObj hh.objs.size)) (listS [(hh.objs.size + 1, DomI hh.objs.size []), (hh.objs.size, AttrL w [])]) := by
    refine Led.list (fun p hp => ?_) (by simp)
    rcases List.mem_cons.mp hp with rfl | hp
    · exact ⟨⟨_, e1, ⟨_, rfl⟩⟩, Heap.get?_none_of_le (Nat.le_succ _)⟩
    · rw [List.mem_singleton] at hp
      subst hp
      exact ⟨⟨_, e2, .empty⟩, Heap.get?_none_of_le (Nat.le_refl _)⟩
  refine codeAny_mono (r_enterC (Q := fun v s' => v = .none ∧ Q (.ref (hh.objs.size + 1)) s') (binds := [("self", .ref (hh.objs.size + 1)), ("values", .ref l)]) (by exact rfl) hA.under.room ⟨keep.get⟩ T (by kernel_rfl) (BindsTo.of_eq rfl) (by rfl) L0 fun Lc s₂ S => ?_) fun r s' z => ?_
  · refine r_expr (r_callMeth (r_built (S.stat T) nb_list bt_list (m_listInit (S.stat T) fun s₂ g₂ => ?_)))
    have S := S.grow g₂
    refine r_cw (args_cons (r_local S rfl (args_cons (r_local S rfl (args_nil ⟨keeps_builtin _ _, b_listInit (S.stat T) (S.at (l := 0) rfl) (S.baseH hl) ?_ (by omega) fun h' h1 h2 => ?_⟩)))))
    · obtain ⟨o, ho, _⟩ := hl
      have := Heap.lt_size ho
      show hh.objs.size + 1 ≠ l
      intro q; subst q
      exact absurd this (by show ¬ hh.objs.size + 1 < hh.objs.size; omega)
    have S := S.set (l := 0) (t := s₂.toks) rfl h1 h2
    refine r_assignAttr (r_list (args_nil ⟨by simp, fun hi s₃ g₃ hhi hhf => ?_⟩))
    have S := S.new g₃ (l := 2) hhi hhf
    obtain ⟨n0, hx⟩ := (S.at (l := 0) rfl).out
    refine r_local S rfl (s_attr (lab := 1) S (S.stat T) saDH hx rfl rfl rfl rfl (by rfl) (by simp) fun s₄ S => ?_)
    refine r_assignAttr (r_list (args_nil ⟨by simp, fun si s₃ g₃ hsi hsf => ?_⟩))
    have S := S.new g₃ (l := 3) hsi hsf
    obtain ⟨n0, hx⟩ := (S.at (l := 0) rfl).out
    refine r_local S rfl (s_attr (lab := 1) S (S.stat T) saDS hx rfl rfl rfl rfl (by rfl) (by simp) fun s₄ S => ?_)
    refine r_nil ⟨rfl, h _ (hh.objs.size + 1) hh.objs.size hi si ⟨⟨S.chg.sub, S.chg.gens, S.chg.drawn, S.chg.os⟩, S.led.weak fun i a φ' e => ?_⟩⟩
    match i, e with
    | 0, e => cases e; exact ⟨_, rfl, fun _ q => q⟩
    | 1, e => cases e; exact ⟨_, rfl, fun _ q => domI_of q⟩
    | 2, e => cases e; exact ⟨_, rfl, fun _ q => q⟩
    | 3, e => cases e; exact ⟨_, rfl, fun _ q => q⟩
    | k + 4, e => cases e
  · rcases r with e | (_ | _ | _ | _) <;> exact z
end
end Mine
end

section
open PySem PySem.W PySem.Calls PyProof.Rows Builtin Builtin.ObjectAttr
namespace Mine

theorem bmL_ga {w : World} : BM w (.type "list") "__getattribute__" "list.__getattribute__" Builtin.«object.__getattribute__» :=
  ⟨by kernel_rfl, ⟨.type "wrapper_descriptor", by kernel_rfl, by decide⟩, ⟨"list", "__getattribute__", by decide +kernel, by decide +kernel, fun _ X => Looks.of_pure (by rw [isSubtype_type]; kernel_rfl)⟩, am_entry_list_getattribute, by decide +kernel⟩
theorem find_item {w : World} {l : Addr} {xs : List Value} {h : Heap} (X : (Kf w).In h) (hl : Has h l (LstI xs)) : Looks (model Pr w) h (find (.ref l) (.type "list") "__getitem__") (.bind (.builtin "method_descriptor.__get__") (.builtin "list.__getitem__")) := by
  obtain ⟨n, hl⟩ := hl.out
  intro A Q E s k q
  have X' : (Kf w).In s.heap := X.keeps k
  unfold find
  refine wpAny_bind ((looks_findIn X' (name := "__getitem__") (t := .type "list") (r := some (.builtin "list.__getitem__")) (by kernel_rfl)).here ?_)
  refine wpAny_bind ((looks_specialIn X' (v := .builtin "list.__getitem__") (name := "__get__") (r := some (.builtin "method_descriptor.__get__")) (by kernel_rfl)).here ?_)
  refine wpAny_bind (wpAny_bind ((looks_takesIn X' (a := .builtin "list.__getitem__") (r := false) (by kernel_rfl)).here ?_))
  rw [if_neg (by decide)]
  refine wpAny_pure ?_
  dsimp only
  unfold ownThenClass inOwnDict
  refine wpAny_bind (wpAny_bind (wpAny_bind ?_))
  refine wpAny_loadPart (k _ _ hl) ?_
  dsimp only [seqO]
  unfold instanceDict
  refine wpAny_bind (wpAny_loadPart (k _ _ hl) ?_)
  refine wpAny_pure (a := none) (wpAny_pure (a := none) ?_)
  dsimp only
  unfold copiedAttributeGuard
  dsimp only
  rw [if_neg (by decide)]
  refine wpAny_bind (wpAny_pure ?_)
  exact wpAny_bind (wpAny_rule (wpAny_pure q))
theorem e_mdget : entryFor table "method_descriptor.__get__" = some Builtin.«method_descriptor.__get__» := entryFor_of_tree (by kernel_rfl)
theorem s_mdget : Slot "method_descriptor" "__get__" "method_descriptor.__get__" :=
  Slot.of (owner := "method_descriptor") (n := "__get__") (by rw [typeLookup_type, builtinLookup_eq_fast]; kernel_rfl) (by decide +kernel) (by decide +kernel) (by decide +kernel) (.inl (by decide +kernel)) (by rw [isSubtype_type]; kernel_rfl)
theorem t_getitem : typeOf (.builtin "list.__getitem__") = pure (.type "method_descriptor") := by show builtinType _ = _; rw [builtinType_eq_fast]; kernel_rfl

section
variable {w : World} {A : Around} {s : Shared} {env : Env}
/-- the bound method of a list -/
theorem b_bindItem {l : Addr} {xs : List Value} {Q : Value → Shared → Prop} (T : Stat w s.heap) (hl : Has s.heap l (LstI xs)) (h : ∀ q s', Grow s s' → Q (.ref q) s') :
    WA w A (call (.builtin "method_descriptor.__get__") [.builtin "list.__getitem__", .ref l, .type "list"]) Q s := by
  obtain ⟨n, hl'⟩ := hl.out
  refine wpAny_call (codeAny_call_builtin s_mdget.plain e_mdget (s_mdget.check _ _ _ _ _ _ _ _ t_getitem (by unfold argsOk; kernel_rfl) ?_))
  unfold Builtin.«method_descriptor.__get__»
  refine wpAny_bind (wpAny_of_eq (a := (Value.builtin "list.__getitem__", some (.ref l), some (.type "list"))) (by rfl) ?_)
  dsimp only
  rw [if_neg (by decide +kernel)]
  have hT : Looks (model Pr w) s.heap (typeOf (.ref l)) (.type "list") := (Looks.ld hl').andThen .now
  have hM : Looks (model Pr w) s.heap (isInstance (.ref l) (.type "list")) true := hT.andThen (Looks.of_pure (by rw [isSubtype_type]; kernel_rfl))
  refine wpAny_bind ?_
  change wpAny _ _ (isInstance (.ref l) (.type "list") >>= _) _ _ _
  refine wpAny_bind (hM.here ?_)
  refine wpAny_pure (a := ()) ?_
  refine wpAny_bind (wpAny_newObj_type ?_ (by size_fits))
  refine wpAny_pure ?_
  exact h _ _ (Grow.alloc _ _)
/-- hasattr(list, '__getitem__') -/
theorem b_hasattr {l : Addr} {xs : List Value} {t : Tok} {Q : Value → Shared → Prop} (T : Stat w s.heap) (hl : Has s.heap l (LstI xs)) (h : ∀ s', Grow s s' → Q (.bool true) s') : WA w A (call (.builtin "hasattr") [.ref l, .str "__getitem__" t]) Q s := by
  obtain ⟨n, hl'⟩ := hl.out
  refine call_function_entry (b := Builtin.«hasattr») (by decide +kernel) (by decide +kernel) (entryFor_of_tree (by kernel_rfl)) (by unfold argsOk; kernel_rfl) ?_
  unfold Builtin.«hasattr»
  refine wpAny_bind (m := someArgs "hasattr" 2 2 _) (wpAny_of_eq (a := [Value.ref l, .str "__getitem__" t]) (by first | rfl | kernel_rfl!) ?_)
  dsimp only
  refine wpAny_bind (wpAny_of_eq (a := ()) (by rfl) ?_)
  rw [if_neg (by simp)]
  have hT : ∀ {h' : Heap}, Sub s.heap h' → Looks (model Pr w) h' (typeOf (.ref l)) (.type "list") := fun k => (Looks.ld (k.get _ _ hl')).andThen .now
  have hM : Looks (model Pr w) s.heap (isInstance (.ref l) (.type "module")) false := (hT (Sub.refl _)).andThen (Looks.of_pure (by rw [isSubtype_type]; kernel_rfl))
  refine wpAny_bind ((hT (Sub.refl _)).here ?_)
  dsimp only
  refine wpAny_bind (wpAny_pure (a := some (Str.ofString "__getitem__")) ?_)
  dsimp only
  refine wpAny_bind ((looks_findIn T.K (name := "__getitem__") (t := .type "list") (r := some (.builtin "list.__getitem__")) (by kernel_rfl)).here ?_)
  dsimp only
  refine wpAny_bind ((looks_findIn T.K (name := "__getattribute__") (t := .type "list") (r := some (.builtin "list.__getattribute__")) (by kernel_rfl)).here ?_)
  rw [if_neg (by decide +kernel)]
  refine wpAny_bind ?_
  change wpAny _ _ (isInstance (.ref l) (.type "module") >>= _) _ _ _
  refine wpAny_bind (hM.here ?_)
  refine wpAny_pure (a := 0) ?_
  rw [if_neg (by decide)]
  unfold getAttrBy?
  refine wpAny_bind (wpAny_bind (wpAny_attempt ?_))
  unfold getAttrBy
  refine wpAny_holding (wpAny_bind ((hT (Sub.refl _)).here (wpAny_bind ((looks_findIn T.K (name := "__getattribute__") (t := .type "list") (r := some (.builtin "list.__getattribute__")) (by kernel_rfl)).here ?_))))
  dsimp only
  rw [if_neg (by decide)]
  unfold getAttrByItsOwn
  refine wpAny_bind (m := hookBefore (.type "list")) (wpAny_of_eq (a := none) (by rfl) ?_)
  refine wpAny_bind (wpAny_attempt (wpAny_holding ?_))
  unfold callGetattribute
  rw [if_neg (by simp)]
  refine wpAny_mono (Q := fun v s' => ∃ q, v = .ref q ∧ Grow s s') (E := fun _ _ => False) ?_ (fun v s' ⟨q, hv, G⟩ => ?_) fun _ _ z => z.elim
  · unfold boundAndCalled
    refine wpAny_bind (bm_bind bmL_ga T ?_)
    dsimp only [List.cons_append, List.nil_append]
    refine bm_call bmL_ga T hl' rfl (by unfold argsOk; kernel_rfl) ?_
    show wpAny _ _ (do
      let tp ← typeOf (.ref l)
      match ← find (.ref l) tp "__getitem__" with
      | .value v => ret v
      | .bind g a => bindTo g a (.ref l) tp
      | .missing => _) _ _ _
    refine wpAny_bind ((hT (Sub.refl _)).here (wpAny_bind ((find_item T.K hl).here ?_)))
    dsimp only
    unfold bindTo
    dsimp only
    refine wpAny_bind (wpAny_holding (b_bindItem T hl fun q s' g' => wpAny_pure ?_))
    exact ⟨q, rfl, g'⟩
  · subst hv
    dsimp only
    rw [handedOut_of (by rfl)]
    exact wpAny_pure (wpAny_pure (wpAny_pure ⟨_, rfl, h _ G⟩))
end
end Mine
end

section
open PySem PySem.W PySem.Calls PyProof.Rows
namespace Mine

def ProbD (w : World) (slv cl vd : Addr) (o : Obj) : Prop := ∃ q : Nat × Nat × Nat × Nat, o = dictOf [attrE w "_solver" q.1 (.ref slv), attrE w "_constraints" q.2.1 (.ref cl), attrE w "_variables" q.2.2.1 (.ref vd)] q.2.2.2
theorem fo_solver {w : World} (q : Nat × Nat × Nat × Nat) (slv cl vd : Addr) : findObj (Kf w) 110 (some (dictOf [attrE w "_solver" q.1 (.ref slv), attrE w "_constraints" q.2.1 (.ref cl), attrE w "_variables" q.2.2.1 (.ref vd)] q.2.2.2)) "_solver" = some (.value (.ref slv)) := by kernel_rfl
theorem fo_cons {w : World} (q : Nat × Nat × Nat × Nat) (slv cl vd : Addr) : findObj (Kf w) 110 (some (dictOf [attrE w "_solver" q.1 (.ref slv), attrE w "_constraints" q.2.1 (.ref cl), attrE w "_variables" q.2.2.1 (.ref vd)] q.2.2.2)) "_constraints" = some (.value (.ref cl)) := by kernel_rfl
theorem fo_vars {w : World} (q : Nat × Nat × Nat × Nat) (slv cl vd : Addr) : findObj (Kf w) 110 (some (dictOf [attrE w "_solver" q.1 (.ref slv), attrE w "_constraints" q.2.1 (.ref cl), attrE w "_variables" q.2.2.1 (.ref vd)] q.2.2.2)) "_variables" = some (.value (.ref vd)) := by kernel_rfl
theorem ga_prob {w : World} : findIn (Kf w) (.ref 110) "__getattribute__" = some (some (.builtin "object.__getattribute__")) := by kernel_rfl
theorem nb_hasattr {w : World} : nsIn (Kf w) mainGlobals "hasattr" = some none := by kernel_rfl
theorem bt_hasattr : bootBuiltins "hasattr" = some (.builtin "hasattr") := by kernel_rfl
theorem ng_Domain {w : World} : nsIn (Kf w) mainGlobals "Domain" = some (some (.ref 264)) := by kernel_rfl
theorem stored_none {kvs : List (Int × Value)} {k : Int} {v : Value} (h : valueAt kvs k = none) : stored kvs k v = kvs ++ [(k, v)] := by
  have h1 := Option.map_eq_none_iff.mp h
  have h2 : (kvs.any fun kv => decide (kv.1 = k)) = false := by
    rw [List.any_eq_false]
    intro x hx
    exact List.find?_eq_none.mp h1 x hx
  unfold stored
  rw [h2]; rfl

section
variable {w : World} {A : Around} {s : Shared} {g : Heap}
theorem addVar_spec {pb pd slv cl vd l : Addr} {i : Int} {t : Tok} {kvs : List (Int × Value)} {ns : List Int} {Q : Value → Shared → Prop} (hA : Ok A 9) (hg : Sub g s.heap) (T : Stat w g) (gp : g.get? pb = some (instObj 110 pd)) (gpd : Has g pd (ProbD w slv cl vd))
    (hvd : (vd == sysModules) = false) (gl : Has g l (LstN ns)) (hn : ns ≠ []) (hn2 : ns.length ≤ 100) (hk : valueAt kvs i = none) (hz : kvs.length ≤ 100) (L : Led g s.heap (listS [(vd, DicK w kvs)]))
    (h : ∀ s' x dx hi si, Chg g s s' → Led g s'.heap (listS [(vd, DicK w (kvs ++ [(i, .ref x)])), (x, DomN dx ns), (dx, DomDI w hi si), (hi, LstN []), (si, LstN [])]) → Q .none s') :
    codeAny (model Pr w) A (.call (.ref 64) ⟨[.ref pb, .int i t, .ref l], []⟩) (Rv Q) s := by
  obtain ⟨_, gpd, q, rfl⟩ := gpd
  obtain ⟨ys, iy, gl'⟩ := gl.ints
  have ly := ints_length iy
  refine r_enterC (binds := [("self", .ref pb), ("variable", .int i t), ("domain", .ref l)]) (by exact rfl) hA.room hg T (by kernel_rfl) (BindsTo.of_eq rfl) (by rfl) L fun Lc s₂ S => ?_
  refine r_if (t_cmp (r_local S rfl (r_attr (r_local S rfl (attr_plain (S.stat T) (S.base gp) (S.base gpd) ga_prob (fo_vars q slv cl vd) rfl fun s' g' => ?_)))))
  have S := S.grow g'
  refine d_in hvd (S.at (l := 0) rfl) fun s' g' => tr_bool ?_
  have S := S.grow g'
  rw [hk, if_neg (by simp)]
  refine r_nil (k_next ?_)
  refine r_if (t_call (r_callName (r_built (S.stat T) nb_hasattr bt_hasattr (r_cw (args_cons (r_local S rfl (args_cons (r_str fun t' s' g' => args_nil ⟨keeps_builtin _ _, ?_⟩))))))))
  have S := S.grow g'
  refine b_hasattr (S.stat T) (S.baseH gl') fun s' g' => tr_bool ?_
  have S := S.grow g'
  rw [if_pos rfl]
  refine r_assign (r_callName (r_glob (S.stat T) ng_Domain (r_cw (args_cons (r_local S rfl (args_nil ⟨keeps_K (S.stat T).K (by kernel_rfl), new_dom (hA.deeper (k := 8) |>.le (by decide)) (S.stat T) (S.baseH gl') (by omega) fun s' x dx hi si M => ?_⟩))))))
  have S := S.merge M (S'' := listS [(vd, DicK w kvs), (x, DomI dx ys), (dx, DomDI w hi si), (hi, LstI []), (si, LstI [])]) ⟨fun j => j + 1, fun l a φ e => by
    cases l with
    | zero => exact .inl e
    | succ j => exact .inr ⟨j, rfl, e⟩⟩
  refine r_store S fun s' S => r_nil (k_next ?_)
  refine r_if (t_not (t_name (r_local S rfl (truthN (S.stat T) bmD__len__ nobool_dom (xs := ns) (Has.ofInts iy (S.at (l := 1) rfl)) (by omega) fun s' g' => ?_))))
  have S := S.grow g'
  rw [if_neg (by cases ns with | nil => exact absurd rfl hn | cons _ _ => simp)]
  refine r_nil (k_next ?_)
  refine r_assignSub (r_local S rfl (r_attr (r_local S rfl (attr_plain (S.stat T) (S.base gp) (S.base gpd) ga_prob (fo_vars q slv cl vd) rfl fun s' g' => ?_))))
  have S := S.grow g'
  refine r_local S rfl (d_set (S.at (l := 0) rfl) (by omega) fun h' tk h1 h2 => ?_)
  have S := S.set (l := 0) (t := tk) rfl h1 h2
  rw [stored_none hk] at S
  refine r_nil (h _ x dx hi si S.chg (S.led.weak fun j a φ' e => ?_))
  match j, e with
  | 0, e => cases e; exact ⟨_, rfl, fun _ q => q⟩
  | 1, e => cases e; exact ⟨_, rfl, fun _ q => ⟨ys, iy, q⟩⟩
  | 2, e => cases e; exact ⟨_, rfl, fun _ q => q⟩
  | 3, e => cases e; exact ⟨_, rfl, fun _ q => ⟨[], .nil, q⟩⟩
  | 4, e => cases e; exact ⟨_, rfl, fun _ q => ⟨[], .nil, q⟩⟩
  | k + 5, e => cases e
end
end Mine
end

section
open PySem PySem.W PySem.Calls PyProof.Rows
namespace Mine

theorem Led.ren {ι κ : Type} {g h : Heap} {S : Sto ι} {S' : Sto κ} (L : Led g h S) (f : κ → ι) (hf : ∀ l p, S' l = some p → S (f l) = some p) (inj : ∀ l l' p p', S' l = some p → S' l' = some p' → f l = f l' → l = l') : Led g h S' :=
  ⟨fun l a φ e => L.has (f l) a φ (hf _ _ e), fun l l' a φ φ' e e' => inj l l' _ _ e e' (L.inj _ _ _ _ _ (hf _ _ e) (hf _ _ e'))⟩
def Z0 : DSt := ⟨fun _ => [0, 1], fun _ => [], fun _ => []⟩
/-- the variables' dict and the domains, while they are made -/
def vE (w : World) (D : Nat → DA) (n : Nat) (vd : Addr) : Sto Lab := fun l => if l = (8, 0) then some (vd, DicK w (domKv D n)) else if l.1 = 9 ∧ l.2 < n then some ((D l.2).dd, DomDI w (D l.2).hi (D l.2).si) else none
abbrev vS (w : World) (D : Nat → DA) (n : Nat) (vd : Addr) : Sto Lab := cS D n Z0 (vE w D n vd)
def setD (D : Nat → DA) (i : Nat) (a : DA) : Nat → DA := fun y => if y = i then a else D y
/-- the new domain's entries -/
def newS (w : World) (i : Nat) (a : DA) (vd : Addr) (kvs : List (Int × Value)) : Sto Lab := fun l =>
  if l = (8, 0) then some (vd, DicK w kvs) else if l.2 = i then match l.1 with
    | 0 => some (a.d, DomN a.dd [0, 1])
    | 1 => some (a.hi, LstN [])
    | 2 => some (a.si, LstN [])
    | 9 => some (a.dd, DomDI w a.hi a.si)
    | _ => none
  else none
theorem domKv_set {D : Nat → DA} {i : Nat} {a : DA} : domKv (setD D i a) (i + 1) = domKv D i ++ [((i : Int), .ref a.d)] := by
  unfold domKv
  rw [List.range_succ, List.map_append]
  congr 1
  · refine List.map_congr_left fun x hx => ?_
    have : x ≠ i := by have := List.mem_range.mp hx; omega
    simp [setD, this]
  · simp [setD]
theorem domKv_none {D : Nat → DA} {n x : Nat} (h : n ≤ x) : valueAt (domKv D n) (x : Int) = none := by
  unfold valueAt domKv
  rw [Option.map_eq_none_iff, List.find?_eq_none]
  intro p hp
  obtain ⟨y, hy, rfl⟩ := List.mem_map.mp hp
  have := List.mem_range.mp hy
  simp; omega
theorem domKv_len {D : Nat → DA} {n : Nat} : (domKv D n).length = n := by simp [domKv]
theorem newS_cases {w : World} {i : Nat} {a : DA} {vd : Addr} {kvs : List (Int × Value)} {l : Lab} {p : Addr × (Obj → Prop)} (e : newS w i a vd kvs l = some p) : l = (8, 0) ∨ l = (0, i) ∨ l = (1, i) ∨ l = (2, i) ∨ l = (9, i) := by
  unfold newS at e
  by_cases h1 : l = (8, 0)
  · exact .inl h1
  · rw [if_neg h1] at e
    by_cases h2 : l.2 = i
    · obtain ⟨k, j⟩ := l
      dsimp only at h2
      subst h2
      rw [if_pos rfl] at e
      dsimp only at e
      split at e
      · exact .inr (.inl rfl)
      · exact .inr (.inr (.inl rfl))
      · exact .inr (.inr (.inr (.inl rfl)))
      · exact .inr (.inr (.inr (.inr rfl)))
      · cases e
    · rw [if_neg h2] at e; cases e
theorem newS_led {w : World} {g h : Heap} {i : Nat} {a : DA} {vd : Addr} {kvs : List (Int × Value)} (L : Led g h (listS [(vd, DicK w kvs), (a.d, DomN a.dd [0, 1]), (a.dd, DomDI w a.hi a.si), (a.hi, LstN []), (a.si, LstN [])])) : Led g h (newS w i a vd kvs) := by
  refine L.ren (fun l => if l = (8, 0) then 0 else match l.1 with | 0 => 1 | 9 => 2 | 1 => 3 | 2 => 4 | _ => 5) (fun l p e => ?_) fun l l' p p' e e' q => ?_
  · unfold newS at e
    by_cases h1 : l = (8, 0)
    · rw [if_pos h1] at e; rw [if_pos h1]; exact e
    · rw [if_neg h1] at e; rw [if_neg h1]
      by_cases h2 : l.2 = i
      · rw [if_pos h2] at e
        split at e <;> rename_i q <;> first | (rw [q]; exact e) | cases e
      · rw [if_neg h2] at e; cases e
  · rcases newS_cases e with rfl | rfl | rfl | rfl | rfl <;> rcases newS_cases e' with rfl | rfl | rfl | rfl | rfl <;> first | rfl | (simp at q)
theorem over2_new {ι : Type} {Sc Sc' S : Sto ι} {l : ι} {p : Addr × (Obj → Prop)} (h : Sc' l = some p) : over2 Sc Sc' S l = some p := by unfold over2; rw [h]
theorem over2_old {ι : Type} {Sc Sc' S : Sto ι} {l : ι} {p : Addr × (Obj → Prop)} (h1 : Sc' l = none) (h2 : Sc l = none) (h3 : S l = some p) : over2 Sc Sc' S l = some p := by
  unfold over2
  rw [h1]
  simp [h2, h3]
theorem vS_step {w : World} {D : Nat → DA} {i : Nat} {a : DA} {vd : Addr} : ∀ l p, vS w (setD D i a) (i + 1) vd l = some p → over2 (fun l => if l = (8, 0) then some (vd, DicK w (domKv D i)) else none) (newS w i a vd (domKv D i ++ [((i : Int), .ref a.d)])) (vS w D i vd) l = some p := by
  rintro ⟨k, j⟩ p e
  unfold vS cS at e
  unfold vE at e
  by_cases hk : k < 3
  · rw [if_pos hk] at e
    have h8 : ¬ ((k, j) : Lab) = (8, 0) := fun q => by cases q; omega
    unfold domS at e
    dsimp only at e
    by_cases hj : j = i
    · subst hj
      rw [if_pos (Nat.lt_succ_self _)] at e
      refine over2_new ?_
      unfold newS
      rw [if_neg h8, if_pos rfl]
      match k, hk, e with
      | 0, _, e => rw [← e]; simp [setD, Z0]
      | 1, _, e => rw [← e]; simp [setD, Z0]
      | 2, _, e => rw [← e]; simp [setD, Z0]
    · refine over2_old (by unfold newS; rw [if_neg h8, if_neg hj]) (if_neg h8) ?_
      show cS D i Z0 _ _ = _
      unfold cS domS
      rw [if_pos hk]
      dsimp only
      by_cases hj2 : j < i
      · rw [if_pos (by omega)] at e
        rw [if_pos hj2]
        match k, hk, e with
        | 0, _, e => rw [← e]; simp [setD, hj]
        | 1, _, e => rw [← e]; simp [setD, hj]
        | 2, _, e => rw [← e]; simp [setD, hj]
      · rw [if_neg (by omega)] at e; cases e
  · rw [if_neg hk] at e
    dsimp only at e
    by_cases h8 : ((k, j) : Lab) = (8, 0)
    · cases h8
      rw [if_pos rfl, domKv_set] at e
      refine over2_new ?_
      unfold newS
      rw [if_pos rfl]
      exact e
    · rw [if_neg h8] at e
      by_cases h9 : k = 9 ∧ j < i + 1
      · rw [if_pos h9] at e
        obtain ⟨rfl, hj⟩ := h9
        by_cases hj2 : j = i
        · subst hj2
          refine over2_new ?_
          unfold newS
          rw [if_neg h8, if_pos rfl, ← e]; simp [setD]
        · refine over2_old (by unfold newS; rw [if_neg h8, if_neg hj2]) (if_neg h8) ?_
          show cS D i Z0 _ _ = _
          unfold cS vE
          rw [if_neg hk, if_neg h8]
          dsimp only
          rw [if_pos ⟨rfl, by omega⟩, ← e]
          simp [setD, hj2]
      · rw [if_neg h9] at e; cases e

theorem fi_addVar {w : World} : findIn (Kf w) (.ref 110) "addVariable" = some (some (.ref 64)) := by kernel_rfl
theorem ty_64 {w : World} : typeIn (Kf w) (.ref 64) = some (.type "function") := by kernel_rfl
theorem gh_prob {w : World} : findIn (Kf w) (.ref 110) "__getattr__" = some none := by kernel_rfl
theorem lk_addVar {w : World} (q : Nat × Nat × Nat × Nat) (slv cl vd : Addr) : lookIn "addVariable" (dictOf [attrE w "_solver" q.1 (.ref slv), attrE w "_constraints" q.2.1 (.ref cl), attrE w "_variables" q.2.2.1 (.ref vd)] q.2.2.2) = some none := by kernel_rfl
section
variable {w : World} {A : Around} {s : Shared} {g : Heap}
theorem addVars_spec {pb pd slv cl vd V l : Addr} {k : Nat} {Q : Value → Shared → Prop} (hA : Ok A 11) (hg : Sub g s.heap) (T : Stat w g) (gp : g.get? pb = some (instObj 110 pd)) (gpd : Has g pd (ProbD w slv cl vd))
    (hvd : (vd == sysModules) = false) (gV : Has g V (LstN (natsV (List.range k)))) (gl : Has g l (LstN [0, 1])) (hk : k ≤ 6) (L : Led g s.heap (vS w (fun _ => ⟨0, 0, 0, 0⟩) 0 vd))
    (h : ∀ s' D, Chg g s s' → Led g s'.heap (vS w D k vd) → Q .none s') :
    codeAny (model Pr w) A (.call (.ref 71) ⟨[.ref pb, .ref V, .ref l], []⟩) (Rv Q) s := by
  have gpd0 := gpd
  obtain ⟨_, gpd, q, rfl⟩ := gpd
  obtain ⟨vs, iv, gV⟩ := gV.ints
  have lv := ints_length iv
  rw [List.length_map, List.length_range] at lv
  refine r_enterC (binds := [("self", .ref pb), ("variables", .ref V), ("domain", .ref l)]) (by exact rfl) hA.room hg T (by kernel_rfl) (BindsTo.of_eq rfl) (by rfl) L fun Lc s₂ S => ?_
  refine r_for (r_local S rfl (.mk (fun i m cm S => ∃ D, m = lo [("domain", .ref l), ("variables", .ref V), ("self", .ref pb)] ∧ cm = [] ∧ S = vS w D i vd)
    (itb_list hA.hd (S.baseH gV)) ⟨_, _, _, ⟨_, rfl, rfl, rfl⟩, S.fit⟩ (fun i P' m cm S s hi X => X.baseH gV) (fun i I ψ m cm S s v hi hv hval S => ?_) fun m cm S s hv S => ?_))
  · obtain ⟨D, rfl, rfl, rfl⟩ := hv
    obtain ⟨y, ty, hy, rfl⟩ := vars_get iv hval
    have hyi : y = i := by
      have := List.getElem?_eq_some_iff.mp hy
      obtain ⟨_, e⟩ := this
      rw [List.getElem_range] at e; exact e.symm
    subst hyi
    refine a_name (r_store S fun s S => ?_)
    refine r_expr (r_callMeth (r_local S rfl (r_getMethod (S.stat T) (S.base gp) ga_prob rfl gh_prob fi_addVar ty_64 (.inl rfl) (.inr ⟨pd, _, rfl, S.base gpd, lk_addVar q slv cl vd⟩) ?_)))
    refine r_cw (args_cons (r_local S rfl (args_cons (r_local S rfl (args_nil ⟨keeps_K (S.stat T).K (by kernel_rfl), ?_⟩)))))
    obtain ⟨g', g1, g2, L', oth, back⟩ := S.call2 (Sc := fun l => if l = (8, 0) then some (vd, DicK w (domKv D y)) else none) (fun l p e => by
      by_cases h8 : l = (8, 0)
      · subst h8; exact e
      · rw [if_neg h8] at e; cases e)
    have L2 : Led g' s.heap (listS [(vd, DicK w (domKv D y))]) := Led.list (fun p hp => by rw [List.mem_singleton] at hp; subst hp; exact L'.has (8, 0) _ _ rfl) (by simp)
    refine wpAny_call (codeAny_mono (addVar_spec (Q := fun v s' => v = .none ∧ ∃ a : DA, Chg g' s s' ∧ Led g' s'.heap (newS w y a vd (domKv D y ++ [((y : Int), .ref a.d)]))) (hA.deeper (k := 10) |>.le (by decide)) g1 (T.mono g2.get) (g2.get _ _ gp) (gpd0.mono g2) hvd (gl.mono g2) (by simp) (by simp) (domKv_none (Nat.le_refl _)) (by rw [domKv_len]; omega) L2
      fun s' x dx hi si c1 L3 => ⟨rfl, ⟨x, dx, hi, si⟩, c1, newS_led L3⟩) fun r s' z => ?_)
    rcases r with e | (v | _ | _ | _) <;> first | exact z.elim | skip
    obtain ⟨rfl, a, c1, L3⟩ := z
    have S := (back s' _ c1 L3).sto vS_step
    exact r_nil ⟨_, _, _, ⟨_, rfl, rfl, rfl⟩, S.fit⟩
  · obtain ⟨D, rfl, rfl, rfl⟩ := hv
    rw [lv] at S
    exact r_nil (k_next (r_nil (h _ D S.chg S.led)))
end
end Mine
end

section
open PySem PySem.W PySem.Calls PyProof.Rows
namespace Mine
section
variable {w : World} {A : Around} {s : Shared} {env : Env}
/-- SomeInSetConstraint(l): one at least -/
theorem new_some1 {st : Addr} {Q : Value → Shared → Prop} (hA : Ok A 3) (T : Stat w s.heap)
    (h : ∀ s' x dx, Grow s s' → s'.heap.get? x = some (instObj 399 dx) → Has s'.heap dx (SisD w st 1) → s.heap.get? x = none → s.heap.get? dx = none → x ≠ dx → Q (.ref x) s') : WA w A (call (.ref 399) [.ref st]) Q s := by
  refine make_inst (fI := 388) (by kernel_rfl) (by kernel_rfl) (by kernel_rfl) T fun g s₁ x dx A' hA' g1 g2 gx nx nd L G => ?_
  have Tg := T.mono g1.get
  refine r_enterC (binds := [("self", .ref x), ("members", .ref st), ("n", .int 1 _), ("exact", .bool false)]) (by exact rfl) (hA' _ hA).room g2 Tg (by kernel_rfl) (BindsTo.of_defaults rfl ((Tg.mono g2.get).K 381 _ (by exact rfl)) rfl rfl rfl) (by rfl) L fun Lc s₂ S => ?_
  refine r_assignAttr (r_local S rfl (r_local S rfl (s_attr (lab := 0) S (S.stat Tg) saSS (S.base gx) rfl rfl rfl rfl (by rfl) (by simp) fun s₂ S => ?_)))
  refine r_assignAttr (r_local S rfl (r_local S rfl (s_attr (lab := 0) S (S.stat Tg) saSN (S.base gx) rfl rfl rfl rfl (by rfl) (by simp) fun s₂ S => ?_)))
  refine r_assignAttr (r_local S rfl (r_local S rfl (s_attr (lab := 0) S (S.stat Tg) saSE (S.base gx) rfl rfl rfl rfl (by rfl) (by simp) fun s₂ S => ?_)))
  have hd := S.at (l := 0) rfl
  refine r_nil ⟨rfl, h _ x dx ⟨g1.trans S.chg.sub, S.chg.gens.trans G.gens, S.chg.drawn.trans G.drawn, S.chg.os.trans G.os⟩ (S.base gx) ?_ nx nd fun q => ?_⟩
  · obtain ⟨o, ho, ha⟩ := hd
    exact ⟨o, ho, sisD_of ha⟩
  · have := S.fresh (l := 0) rfl
    rw [← q, gx] at this; cases this
end
theorem nb_isinst {w : World} : nsIn (Kf w) mainGlobals "isinstance" = some none := by kernel_rfl
theorem bt_isinst : bootBuiltins "isinstance" = some (.builtin "isinstance") := by kernel_rfl
theorem ng_Constraint {w : World} : nsIn (Kf w) mainGlobals "Constraint" = some (some (.ref 308)) := by kernel_rfl
section
variable {w : World} {A : Around} {s : Shared} {g : Heap}
theorem addCons_spec {pb pd slv cl vd x C dx : Addr} {vv : Value} {vs : List Value} {args : List Value} {Q : Value → Shared → Prop} (hA : Ok A 6) (hg : Sub g s.heap) (T : Stat w g) (gp : g.get? pb = some (instObj 110 pd)) (gpd : Has g pd (ProbD w slv cl vd))
    (gx : g.get? x = some (instObj C dx)) (hC : isIn (Kf w) (.ref C) 308 = true) (hz : vs.length ≤ 800) (L : Led g s.heap (listS [(cl, LstI vs)])) (hargs : args = [.ref pb, .ref x, vv] ∨ (args = [.ref pb, .ref x] ∧ vv = .none))
    (h : ∀ s' ta, Chg g s s' → Led g s'.heap (listS [(cl, LstI (vs ++ [.ref ta])), (ta, TupI [.ref x, vv])]) → Q .none s') :
    codeAny (model Pr w) A (.call (.ref 79) ⟨args, []⟩) (Rv Q) s := by
  obtain ⟨_, gpd, q, rfl⟩ := gpd
  refine r_enterC (binds := [("self", .ref pb), ("constraint", .ref x), ("variables", vv)]) (by exact rfl) hA.room hg T (by kernel_rfl) (by
    rcases hargs with rfl | ⟨rfl, rfl⟩
    · exact BindsTo.of_defaults rfl ((T.mono hg.get).K 72 _ (by exact rfl)) rfl rfl rfl
    · exact BindsTo.of_defaults rfl ((T.mono hg.get).K 72 _ (by exact rfl)) rfl rfl rfl) (by rfl) L fun Lc s₂ S => ?_
  refine r_if (t_not (t_call (r_callName (r_built (S.stat T) nb_isinst bt_isinst (r_cw (args_cons (r_local S rfl (args_cons (r_glob (S.stat T) ng_Constraint (args_nil ⟨keeps_builtin _ _, ?_⟩))))))))))
  refine isi_call (S.stat T).K (fun M => (Looks.ld (S.base gx)).andThen .now) hC (by intro q; cases q) (tr_bool ?_)
  rw [if_neg (by decide)]
  refine r_nil (k_next ?_)
  refine r_expr (r_callMeth (r_attr (r_local S rfl (attr_plain (S.stat T) (S.base gp) (S.base gpd) ga_prob (fo_cons q slv cl vd) rfl fun s' g' => ?_))))
  have S := S.grow g'
  refine m_list bmL_append (S.stat T) (S.at (l := 0) rfl) ?_
  refine r_cw (args_cons (r_tuple (args_cons (r_local S rfl (args_cons (r_local S rfl (args_nil ⟨by simp, fun ta s' g' hta htf => args_nil ⟨keeps_builtin _ _, ?_⟩⟩)))))))
  have S := S.new g' (l := 1) hta htf
  refine b_append (S.stat T) (S.at (l := 0) rfl) (by omega) fun h' h1 h2 => ?_
  have S := S.set (l := 0) (t := s'.toks) rfl h1 h2
  refine r_nil (h _ ta S.chg (S.led.weak fun j a φ' e => ?_))
  match j, e with
  | 0, e => cases e; exact ⟨_, rfl, fun _ q => q⟩
  | 1, e => cases e; exact ⟨_, rfl, fun _ q => q⟩
  | k + 2, e => cases e
end
end Mine
end

section
open PySem PySem.W PySem.Calls PyProof.Rows
namespace Mine

theorem solvD_of {w : World} {o : Obj} (h : AttrL w [("_forwardcheck", .bool true)] o) : SolvD w o := by
  obtain ⟨es, n, E, rfl⟩ := h
  cases E with
  | cons nm t1 v1 E =>
    cases E
    exact ⟨(t1, n), rfl⟩
theorem probD_of {w : World} {slv cl vd : Addr} {o : Obj} (h : AttrL w [("_solver", .ref slv), ("_constraints", .ref cl), ("_variables", .ref vd)] o) : ProbD w slv cl vd o := by
  obtain ⟨es, n, E, rfl⟩ := h
  cases E with
  | cons nm t1 v1 E =>
    cases E with
    | cons nm2 t2 v2 E =>
      cases E with
      | cons nm3 t3 v3 E =>
        cases E
        exact ⟨(t1, t2, t3, n), rfl⟩
theorem saF {w : World} : SA w 186 "_forwardcheck" := sa_plain (by kernel_rfl) (by kernel_rfl) (by kernel_rfl) (by kernel_rfl)
theorem saP1 {w : World} : SA w 110 "_solver" := sa_plain (by kernel_rfl) (by kernel_rfl) (by kernel_rfl) (by kernel_rfl)
theorem saP2 {w : World} : SA w 110 "_constraints" := sa_plain (by kernel_rfl) (by kernel_rfl) (by kernel_rfl) (by kernel_rfl)
theorem saP3 {w : World} : SA w 110 "_variables" := sa_plain (by kernel_rfl) (by kernel_rfl) (by kernel_rfl) (by kernel_rfl)
theorem ng_BS {w : World} : nsIn (Kf w) mainGlobals "BacktrackingSolver" = some (some (.ref 186)) := by kernel_rfl

section
variable {w : World} {A : Around} {s : Shared} {g : Heap}
theorem new_solver {Q : Value → Shared → Prop} (hA : Ok A 3) (T : Stat w s.heap)
    (h : ∀ s' x dx, Grow s s' → s'.heap.get? x = some (instObj 186 dx) → Has s'.heap dx (SolvD w) → s.heap.get? x = none → s.heap.get? dx = none → x ≠ dx → Q (.ref x) s') : WA w A (call (.ref 186) []) Q s := by
  refine make_inst (fI := 164) (by kernel_rfl) (by kernel_rfl) (by kernel_rfl) T fun g s₁ x dx A' hA' g1 g2 gx nx nd L G => ?_
  have Tg := T.mono g1.get
  refine r_enterC (binds := [("self", .ref x), ("forwardcheck", .bool true)]) (by exact rfl) (hA' _ hA).room g2 Tg (by kernel_rfl) (BindsTo.of_defaults rfl ((Tg.mono g2.get).K 157 _ (by exact rfl)) rfl rfl rfl) (by rfl) L fun Lc s₂ S => ?_
  refine r_assignAttr (r_local S rfl (r_local S rfl (s_attr (lab := 0) S (S.stat Tg) saF (S.base gx) rfl rfl rfl rfl (by rfl) (by simp) fun s₂ S => ?_)))
  have hd := S.at (l := 0) rfl
  refine r_nil ⟨rfl, h _ x dx ⟨g1.trans S.chg.sub, S.chg.gens.trans G.gens, S.chg.drawn.trans G.drawn, S.chg.os.trans G.os⟩ (S.base gx) ?_ nx nd fun q => ?_⟩
  · obtain ⟨o, ho, ha⟩ := hd
    exact ⟨o, ho, solvD_of ha⟩
  · have := S.fresh (l := 0) rfl
    rw [← q, gx] at this; cases this

theorem made2 {s s' : Shared} {x dx : Addr} {φ ψ : Obj → Prop} (G : Grow s s') (hx : Has s'.heap x φ) (hd : Has s'.heap dx ψ) (nx : s.heap.get? x = none) (nd : s.heap.get? dx = none) (ne : x ≠ dx) : Made s s' (listS [(x, φ), (dx, ψ)]) := by
  refine ⟨G, Led.list (fun p hp => ?_) (by simp [ne])⟩
  rcases List.mem_cons.mp hp with rfl | hp
  · exact ⟨hx, nx⟩
  · rw [List.mem_singleton] at hp
    subst hp
    exact ⟨hd, nd⟩
theorem Led.cons {g0 g h : Heap} {x : Addr} {o : Obj} {φ : Obj → Prop} {l : List (Addr × (Obj → Prop))} (k : Sub g0 g) (nx : g0.get? x = none) (hx : Has h x φ) (L : Led g h (listS l)) (gx : g.get? x = some o) : Led g0 h (listS ((x, φ) :: l)) := by
  have no : ∀ (j : Nat) (ψ : Obj → Prop), listS l j = some (x, ψ) → False := fun j ψ e => by
    have := (L.has j _ _ e).2
    rw [gx] at this; cases this
  constructor
  · intro i a ψ e
    cases i with
    | zero => cases e; exact ⟨hx, nx⟩
    | succ j => exact ⟨(L.has j a ψ e).1, k.none (L.has j a ψ e).2⟩
  · intro i i' a ψ ψ' e e'
    cases i with
    | zero =>
      cases i' with
      | zero => rfl
      | succ j => cases e; exact (no j _ e').elim
    | succ j =>
      cases i' with
      | zero => cases e'; exact (no j _ e).elim
      | succ j' => rw [L.inj j j' a ψ ψ' e e']
theorem new_problem {Q : Value → Shared → Prop} (hA : Ok A 8) (T : Stat w s.heap)
    (h : ∀ s' pb pd slv sdx cl vd, Made s s' (listS [(pb, fun o => o = instObj 110 pd), (pd, ProbD w slv cl vd), (slv, fun o => o = instObj 186 sdx), (sdx, SolvD w), (cl, LstI []), (vd, DicK w [])]) → (vd == sysModules) = false → Q (.ref pb) s') : WA w A (call (.ref 110) []) Q s := by
  refine make_inst (fI := 36) (by kernel_rfl) (by kernel_rfl) (by kernel_rfl) T fun g s₁ pb pd A' hA' g1 g2 gx nx nd L G => ?_
  have Tg := T.mono g1.get
  refine r_enterC (binds := [("self", .ref pb), ("solver", .none)]) (by exact rfl) (hA' _ hA).room g2 Tg (by kernel_rfl) (BindsTo.of_defaults rfl ((Tg.mono g2.get).K 29 _ (by exact rfl)) rfl rfl rfl) (by rfl) L fun Lc s₂ S => ?_
  refine r_assignAttr (BoolOp_or (r_local S rfl (tr_none ?_)))
  rw [if_neg (by decide)]
  refine BoolOp_one (r_callName (r_glob (S.stat Tg) ng_BS (r_cw0 (keeps_K (S.stat Tg).K (by kernel_rfl)) (new_solver (hA' _ hA |>.deeper.le (by decide)) (S.stat Tg) fun s₃ slv sdx g3 hslv hsdx n1 n2 n3 => ?_))))
  have S := S.merge (made2 (φ := fun o => o = instObj 186 sdx) g3 ⟨_, hslv, rfl⟩ hsdx n1 n2 n3) (S'' := listS [(pd, AttrL w []), (slv, fun o => o = instObj 186 sdx), (sdx, SolvD w)]) ⟨fun j => j + 1, fun l a φ e => by
    cases l with
    | zero => exact .inl e
    | succ j => exact .inr ⟨j, rfl, e⟩⟩
  refine r_local S rfl (s_attr (lab := 0) S (S.stat Tg) saP1 (S.base gx) rfl rfl rfl rfl (by rfl) (by simp) fun s₂ S => ?_)
  refine r_assignAttr (r_list (args_nil ⟨by simp, fun cl s₃ g₃ hcl hcf => ?_⟩))
  have S := S.new g₃ (l := 3) hcl hcf
  refine r_local S rfl (s_attr (lab := 0) S (S.stat Tg) saP2 (S.base gx) rfl rfl rfl rfl (by rfl) (by simp) fun s₂ S => ?_)
  refine r_assignAttr (d_empty (S.stat Tg) fun vd s₃ g₃ hvd hvf hsys => ?_)
  have S := S.new g₃ (l := 4) hvd hvf
  refine r_local S rfl (s_attr (lab := 0) S (S.stat Tg) saP3 (S.base gx) rfl rfl rfl rfl (by rfl) (by simp) fun s₂ S => ?_)
  refine r_nil ⟨rfl, h _ pb pd slv sdx cl vd ⟨⟨g1.trans S.chg.sub, S.chg.gens.trans G.gens, S.chg.drawn.trans G.drawn, S.chg.os.trans G.os⟩, ?_⟩ hsys⟩
  refine Led.cons g1 nx ⟨_, S.base gx, rfl⟩ (S.led.weak (S' := listS [(pd, ProbD w slv cl vd), (slv, fun o => o = instObj 186 sdx), (sdx, SolvD w), (cl, LstI []), (vd, DicK w [])]) fun j a φ' e => ?_) gx
  match j, e with
  | 0, e => cases e; exact ⟨_, rfl, fun _ q => probD_of q⟩
  | 1, e => cases e; exact ⟨_, rfl, fun _ q => q⟩
  | 2, e => cases e; exact ⟨_, rfl, fun _ q => q⟩
  | 3, e => cases e; exact ⟨_, rfl, fun _ q => q⟩
  | 4, e => cases e; exact ⟨_, rfl, fun _ q => q⟩
  | k + 5, e => cases e
end
end Mine
end

section
open PySem PySem.W PySem.Calls PyProof.Rows
namespace Mine

section
variable {ι : Type} {g : Heap} {L : Addr} {cs : List (Str × Addr)} {s0 s : Shared} {P : List (Addr × (Obj → Prop))} {m cm : Loc} {S S' : Sto ι}
/-- what is dropped from the ledger will not change again: the base grows -/
theorem St.freeze (X : St ⟨g, L, cs, s0⟩ P m cm S s) (hS : ∀ l p, S' l = some p → S l = some p) :
    ∃ g', Sub g g' ∧ Sub g' s.heap ∧ St ⟨g', L, cs, s0⟩ P m cm S' s ∧ (∀ l a φ, S l = some (a, φ) → S' l = none → Has g' a φ) := by
  let p : Addr → Prop := fun a => ∃ t φ, mkW L m cs cm P S' t = some (a, φ)
  have H := hide_get s.heap p
  have up : ∀ {t : Tag ι} {a : Addr} {φ : Obj → Prop}, mkW L m cs cm P S' t = some (a, φ) → mkW L m cs cm P S t = some (a, φ) := by
    intro t a φ e
    cases t with
    | loc => exact e
    | cel x => exact e
    | pin k => exact e
    | lab l => exact hS l _ e
  have sub : Sub (hide s.heap p) s.heap := ⟨fun a o e => by
    by_cases q : p a
    · rw [(H a).1 q] at e; cases e
    · rw [(H a).2 q] at e; exact e⟩
  refine ⟨hide s.heap p, ⟨fun a o e => ?_⟩, sub, ⟨⟨sub, X.chg.gens, X.chg.drawn, X.chg.os⟩, ⟨fun t a φ e => ?_, fun t t' a φ φ' e e' => X.own.inj t t' a φ φ' (up e) (up e')⟩⟩, fun l a φ e hn => ?_⟩
  · refine ((H a).2 fun q => ?_).trans (X.base e)
    obtain ⟨t, φ, q⟩ := q
    rw [(X.own.has t a φ (up q)).1] at e; cases e
  · exact ⟨(H a).1 ⟨t, φ, e⟩, (X.own.has t a φ (up e)).2⟩
  · obtain ⟨o, ho, hφ⟩ := X.at e
    refine ⟨o, ((H a).2 fun q => ?_).trans ho, hφ⟩
    obtain ⟨t, ψ, q⟩ := q
    have := X.own.inj t (.lab l) a ψ φ (up q) e
    subst this
    have q' : S' l = some (a, ψ) := q
    rw [hn] at q'; cases q'
theorem Chg.weaken {g g' : Heap} {a b : Shared} (h : Sub g g') (x : Chg g' a b) : Chg g a b := ⟨h.trans x.sub, x.gens, x.drawn, x.os⟩
theorem Led.weaken {g g' h : Heap} (k : Sub g g') {S : Sto ι} (L : Led g' h S) : Led g h S := ⟨fun l a φ e => ⟨(L.has l a φ e).1, k.none (L.has l a φ e).2⟩, L.inj⟩
end
end Mine
end

section
open PySem PySem.W PySem.Calls PyProof.Rows
namespace Mine

section
variable {w : World} {A : Around} {s : Shared} {g : Heap}
theorem eqC_call {x y dx dy : Addr} {Q : Value → Shared → Prop} (hA : Ok A 4) (hg : Sub g s.heap) (T : Stat w g) (gx : g.get? x = some (instObj 371 dx)) (gy : g.get? y = some (instObj 371 dy)) (hne : x ≠ y)
    (h : ∀ s', Chg g s s' → Q (.bool false) s') : codeAny (model Pr w) A (.call (.ref 282) ⟨[.ref x, .ref y], []⟩) (Rv Q) s := by
  refine r_enterC (S := noS) (binds := [("self", .ref x), ("other", .ref y)]) (by exact rfl) hA.room hg T (by kernel_rfl) (BindsTo.of_eq rfl) (by rfl) (Led.nil _ _) fun Lc s₂ S => ?_
  refine r_ret (BoolOp_and (r_callName (r_built (S.stat T) nb_isinst bt_isinst (r_cw (args_cons (r_local S rfl (args_cons (r_glob (S.stat T) ng_Constraint (args_nil ⟨keeps_builtin _ _, ?_⟩)))))))))
  refine isi_call (S.stat T).K (fun M => (Looks.ld (S.base gy)).andThen .now) (by kernel_rfl) (by intro q; cases q) (tr_bool ?_)
  rw [if_pos rfl]
  exact BoolOp_one (r_cmp (r_local S rfl (r_local S rfl (wpAny_is_ref_other hne (S.base gx) (S.base gy) (by intro q; cases q) (h _ S.chg)))))

/-- two constraints are compared -/
theorem eqC_bool {x y dx dy : Addr} {Q : Bool → Shared → Prop} (hA : Ok A 6) (hg : Sub g s.heap) (T : Stat w g) (gx : g.get? x = some (instObj 371 dx)) (gy : g.get? y = some (instObj 371 dy)) (hd : ∃ od, g.get? dx = some od) (hne : x ≠ y)
    (h : ∀ s', Chg g s s' → Q false s') : WA w A (eqBool (.ref x) (.ref y)) Q s := by
  obtain ⟨od, hd⟩ := hd
  have X := (T.mono hg.get).K
  unfold eqBool
  refine wpAny_holding ?_
  rw [if_neg (by simp [hne])]
  refine wpAny_bind ?_
  unfold richCompare
  simp only [oneThing_ref]
  refine wpAny_holding (wpAny_bind (wpAny_cRoomFor (by have := hA.un; omega) ?_))
  refine wpAny_bind (wpAny_typeOf_ref (hg.get _ _ gx) (wpAny_bind (wpAny_typeOf_ref (hg.get _ _ gy) ?_)))
  rw [if_neg (by show ¬ (Value.ref 371 != Value.ref 371) = true; decide)]
  refine wpAny_bind (wpAny_pure ?_)
  rw [if_neg (by decide)]
  unfold tryCompare
  simp only [callSpecialIfBound?, bindSpecialIfBound?]
  have hT : Looks (model Pr w) s.heap (typeOf (.ref x)) (.ref 371) := (Looks.ld (hg.get _ _ gx)).andThen .now
  refine wpAny_bind (wpAny_bind (wpAny_holding (wpAny_bind (wpAny_bind ?_))))
  unfold specialOf
  refine wpAny_bind (hT.here ((looks_findIn X (name := "__eq__") (t := .ref 371) (r := some (.ref 282)) (by kernel_rfl)).here ?_))
  dsimp only
  have hb : Looks (model Pr w) s.heap (bindSpecial (.ref 282) (.ref x)) (.ref 282, [.ref x]) := bind_fn X (.ref x) (by kernel_rfl)
  have fin : WA w A (call (.ref 282) [.ref x, .ref y]) (fun v s' => v = .bool false ∧ Q false s') s := wpAny_call (codeAny_mono (eqC_call (Q := fun v s' => v = .bool false ∧ Q false s') (hA.le (by decide)) hg T gx gy hne fun s' c => ⟨rfl, h s' c⟩) fun r s' z => by rcases r with e | (_ | _ | _ | _) <;> exact z)
  have fin2 : wpAny (model Pr w) A (call (.ref 282) ([.ref x] ++ [.ref y]) >>= fun v => pure (some v)) (fun a s' => a = some (.bool false) ∧ Q false s') (fun _ _ => False) s :=
    wpAny_bind (wpAny_mono fin (fun v s' h' => wpAny_pure ⟨by rw [h'.1], h'.2⟩) fun _ _ h' => h')
  refine wpAny_bind (wpAny_askSetting (wpAny_ite ?_))
  split
  · refine wpAny_bind (hb.here (wpAny_pure (wpAny_mono fin2 (fun a s' q => ?_) fun _ _ q => q.elim)))
    obtain ⟨rfl, q⟩ := q
    exact wpAny_pure (wpAny_pure (tr_bool q))
  · refine wpAny_tryCatch (wpAny_bind (hb.here (wpAny_pure (wpAny_mono fin2 (fun a s' q => ?_) fun _ _ q => q.elim))))
    obtain ⟨rfl, q⟩ := q
    exact wpAny_pure (wpAny_pure (tr_bool q))
end
end Mine
end

section
open PySem PySem.W PySem.Calls PyProof.Rows
namespace Mine

section
variable {w : World} {A : Around} {s : Shared} {g : Heap}
/-- tuples (constraint, variables): the other constraint differs -/
theorem eqT_no {t1 t2 x y dx dy : Addr} {v1 v2 : Value} {Q : Bool → Shared → Prop} (hA : Ok A 8) (hg : Sub g s.heap) (T : Stat w g) (g1 : Has g t1 (TupI [.ref x, v1])) (g2 : Has g t2 (TupI [.ref y, v2])) (hne : t1 ≠ t2)
    (gx : g.get? x = some (instObj 371 dx)) (gy : g.get? y = some (instObj 371 dy)) (hd : ∃ od, g.get? dx = some od) (hxy : x ≠ y)
    (h : ∀ s', Chg g s s' → Q false s') : WA w A (eqBool (.ref t1) (.ref t2)) Q s := by
  obtain ⟨n1, g1⟩ := g1.out
  obtain ⟨n2, g2⟩ := g2.out
  have T1 : s.TypeIs (.ref t1) "tuple" := ⟨_, hg.get _ _ g1, rfl⟩
  have T2 : s.TypeIs (.ref t2) "tuple" := ⟨_, hg.get _ _ g2, rfl⟩
  unfold eqBool
  refine wpAny_holding ?_
  rw [if_neg (by simp [hne])]
  refine wpAny_bind (wpAny_richCompare_same_room (op := .Eq) T1 T2 F.slot_tuple_eq (wpAny_call_entry F.slot_tuple_eq T1 F.entry_tuple_eq ?_ (F.args_tuple_eq_2 _ _)) (by have := hA.un; omega))
  show wpAny _ _ (isInstance (.ref t2) (.type "tuple") >>= _) _ _ s
  refine wpAny_bind (wpAny_isInstance T2 isSubtype_tuple_tuple ?_)
  simp only [Bool.not_true, Bool.false_eq_true, if_false]
  refine wpAny_bind (wpAny_tupleItemsOf (hg.get _ _ g1) rfl ?_)
  refine wpAny_bind (wpAny_tupleItemsOf (hg.get _ _ g2) rfl ?_)
  refine wpAny_bind ?_
  show wpAny _ _ (forIn ((Value.ref x, Value.ref y) :: [(v1, v2)]) _ _) _ _ s
  rw [List.forIn_cons]
  refine wpAny_bind (wpAny_bind (eqC_bool (hA.in1.le (by decide)) hg T gx gy hd hxy fun s' c => ?_))
  rw [if_pos (by decide)]
  exact wpAny_bind (wpAny_pure (wpAny_pure (wpAny_pure (wpAny_pure ⟨_, rfl, (fun e => nomatch e), tr_bool (h s' c)⟩))))

/-- the same constraint, the same variables -/
theorem eqT_yes {t1 t2 x : Addr} {v : Addr} {Q : Bool → Shared → Prop} (hA : Ok A 8) (g1 : Has s.heap t1 (TupI [.ref x, .ref v])) (g2 : Has s.heap t2 (TupI [.ref x, .ref v])) (h : Q true s) : WA w A (eqBool (.ref t1) (.ref t2)) Q s := by
  obtain ⟨n1, g1⟩ := g1.out
  obtain ⟨n2, g2⟩ := g2.out
  have T1 : s.TypeIs (.ref t1) "tuple" := ⟨_, g1, rfl⟩
  have T2 : s.TypeIs (.ref t2) "tuple" := ⟨_, g2, rfl⟩
  unfold eqBool
  refine wpAny_holding ?_
  by_cases hne : (Value.ref t1 == Value.ref t2) = true
  · rw [if_pos hne]
    exact wpAny_bind (wpAny_rule (wpAny_pure h))
  rw [if_neg hne]
  refine wpAny_bind (wpAny_richCompare_same_room (op := .Eq) T1 T2 F.slot_tuple_eq (wpAny_call_entry F.slot_tuple_eq T1 F.entry_tuple_eq ?_ (F.args_tuple_eq_2 _ _)) (by have := hA.un; omega))
  show wpAny _ _ (isInstance (.ref t2) (.type "tuple") >>= _) _ _ s
  refine wpAny_bind (wpAny_isInstance T2 isSubtype_tuple_tuple ?_)
  simp only [Bool.not_true, Bool.false_eq_true, if_false]
  refine wpAny_bind (wpAny_tupleItemsOf g1 rfl ?_)
  refine wpAny_bind (wpAny_tupleItemsOf g2 rfl ?_)
  refine wpAny_bind ?_
  have self : ∀ (a : Addr) (A' : Around) (R : Bool → Shared → Prop), R true s → WA w A' (eqBool (.ref a) (.ref a)) R s := fun a A' R q => by
    unfold eqBool
    refine wpAny_holding ?_
    rw [if_pos (by simp)]
    exact wpAny_bind (wpAny_rule (wpAny_pure q))
  show wpAny _ _ (forIn ((Value.ref x, Value.ref x) :: [(Value.ref v, Value.ref v)]) _ _) _ _ s
  rw [List.forIn_cons]
  refine wpAny_bind (wpAny_bind (self _ _ _ ?_))
  rw [if_neg (by decide)]
  refine wpAny_pure ?_
  dsimp only
  rw [List.forIn_cons]
  refine wpAny_bind (wpAny_bind (self _ _ _ ?_))
  rw [if_neg (by decide)]
  refine wpAny_pure ?_
  dsimp only
  rw [List.forIn_nil]
  refine wpAny_pure ?_
  exact wpAny_pure ⟨_, rfl, (fun e => nomatch e), tr_bool h⟩
end
end Mine
end

section
open PySem PySem.W PySem.Calls PyProof.Rows
namespace Mine

theorem okLoop {A : Around} {k : Nat} {args : Args} (h : Ok A (k + 1)) : Ok (A.under (.builtin "list.remove.loop" args)) k := by
  refine ⟨h.hd, ?_, ?_⟩
  · have := h.dep
    have e : (A.under (.builtin "list.remove.loop" args)).depth = A.depth := rfl
    omega
  · have := h.un
    have e : (A.under (.builtin "list.remove.loop" args)).units = A.units + 1 := rfl
    omega

section
variable {w : World} {A : Around} {s0 : Shared}
/-- an item that stands ahead: a tuple with another constraint -/
def OtherT (h : Heap) (x : Addr) (u : Addr) (p : Value) : Prop := ∃ t y dy v' od, p = .ref t ∧ Has h t (TupI [.ref y, v']) ∧ t ≠ u ∧ h.get? y = some (instObj 371 dy) ∧ h.get? dy = some od ∧ y ≠ x

theorem c_removeT {a u x v dx t0 : Addr} {post : List Value} {R : Result → Shared → Prop} (pre : List Value) (hA : Ok A 10) (T : Stat w s0.heap) (hx : s0.heap.get? x = some (instObj 371 dx))
    (hu : Has s0.heap u (TupI [.ref x, .ref v])) (hpre : ∀ p ∈ pre, OtherT s0.heap x u p) (h0 : Has s0.heap t0 (TupI [.ref x, .ref v]))
    (ho : Has s0.heap a (LstI (pre ++ .ref t0 :: post))) (hz : (pre ++ .ref t0 :: post).length ≤ 900)
    (h : ∀ s' h', Grow s0 s' → Has h' a (LstI (pre ++ post)) → Heap.SameBut a s'.heap h' → R (.ok (.ret .none)) { s' with heap := h' }) (m : Nat) : ∀ j : Nat, j + m = pre.length → ∀ s, Grow s0 s →
    codeAny (model Pr w) A (.builtin "list.remove.loop" ⟨[.ref a, .ref u, rawInt (j : Int)], []⟩) R s := by
  induction m with
  | zero =>
    intro j hj s G
    have ho := ho.mono G.sub
    obtain ⟨n, ho'⟩ := ho.out
    refine codeAny_builtin (b := Builtin.«list.remove.loop») (entryFor_of_tree (by kernel_rfl)) ?_
    show wpAny _ _ (Builtin.List.listItems (.ref a) >>= _) _ _ _
    refine wpAny_bind (m := Builtin.List.listItems (.ref a)) (wpAny_bind (wpAny_seqItems ho' rfl (wpAny_pure ?_)))
    have hjj : (j : Int).toNat = pre.length := by omega
    have e : (pre ++ Value.ref t0 :: post).toArray[(j : Int).toNat]? = some (.ref t0) := by
      rw [hjj, List.getElem?_toArray, List.getElem?_append_right (Nat.le_refl _), Nat.sub_self]
      rfl
    dsimp only [rawInt]
    rw [e]
    dsimp only
    refine wpAny_bind (noE (eqT_yes ((okLoop hA).le (by decide)) (h0.mono G.sub) (hu.mono G.sub) ?_))
    rw [if_pos rfl]
    have e2 : ((pre ++ Value.ref t0 :: post).toArray.eraseIdxIfInBounds (j : Int).toNat).toList = pre ++ post := by
      rw [hjj, Array.toList_eraseIdxIfInBounds]
      show (pre ++ _ :: post).eraseIdx pre.length = _
      rw [List.eraseIdx_append_of_length_le (Nat.le_refl _), Nat.sub_self]
      rfl
    have hl : (pre ++ post).length + 1 = (pre ++ Value.ref t0 :: post).length := by simp; omega
    refine wpAny_bind (m := updateSeq a (·.eraseIdxIfInBounds (j : Int).toNat)) (wpAny_mono (b_update (w := w) (A := A.under (.builtin "list.remove.loop" ⟨[.ref a, .ref u, rawInt (j : Int)], []⟩)) (s := s) ho (by omega) (by rw [← Array.length_toList, e2]; omega) (Q := fun _ s' => R (.ok (.ret .none)) s') fun h' h1 h2 => ?_) (fun _ s' hq => wpAny_pure hq) fun _ _ x => x.elim)
    rw [e2] at h1
    exact h s h' G h1 h2
  | succ m ih =>
    intro j hj s G
    have ho := ho.mono G.sub
    obtain ⟨n, ho'⟩ := ho.out
    refine codeAny_builtin (b := Builtin.«list.remove.loop») (entryFor_of_tree (by kernel_rfl)) ?_
    show wpAny _ _ (Builtin.List.listItems (.ref a) >>= _) _ _ _
    refine wpAny_bind (m := Builtin.List.listItems (.ref a)) (wpAny_bind (wpAny_seqItems ho' rfl (wpAny_pure ?_)))
    have hjj : (j : Int).toNat = j := by omega
    have hlt : j < pre.length := by omega
    obtain ⟨t, y, dy, v', od, hv, ht, htu, hy, hdy, hne⟩ := hpre pre[j] (List.getElem_mem hlt)
    have e : (pre ++ Value.ref t0 :: post).toArray[(j : Int).toNat]? = some (.ref t) := by
      rw [hjj, List.getElem?_toArray, List.getElem?_append_left hlt, List.getElem?_eq_getElem hlt, hv]
    dsimp only [rawInt]
    rw [e]
    dsimp only
    refine wpAny_bind (noE (eqT_no (g := s.heap) ((okLoop hA).le (by decide)) (Sub.refl _) (T.mono G.sub.get) (ht.mono G.sub) (hu.mono G.sub) htu (G.sub.get _ _ hy) (G.sub.get _ _ hx) ⟨od, G.sub.get _ _ hdy⟩ hne fun s' c => ?_))
    rw [if_neg (by decide)]
    refine wpAny_pure ?_
    refine ⟨plainId_quiet (by decide +kernel) _, ?_⟩
    have := ih (j + 1) (by omega) s' (G.trans c)
    rw [show (((j + 1 : Nat) : Int)) = (j : Int) + 1 from by omega] at this
    exact this

theorem b_removeT {a u x v dx t0 : Addr} {pre post : List Value} {Q : Value → Shared → Prop} (hA : Ok A 11) (T : Stat w s0.heap) (hx : s0.heap.get? x = some (instObj 371 dx))
    (hu : Has s0.heap u (TupI [.ref x, .ref v])) (hpre : ∀ p ∈ pre, OtherT s0.heap x u p) (h0 : Has s0.heap t0 (TupI [.ref x, .ref v]))
    (ho : Has s0.heap a (LstI (pre ++ .ref t0 :: post))) (hz : (pre ++ .ref t0 :: post).length ≤ 900)
    (h : ∀ s' h', Grow s0 s' → Has h' a (LstI (pre ++ post)) → Heap.SameBut a s'.heap h' → Q .none { s' with heap := h' }) : WA w A (call (.builtin "list.remove") [.ref a, .ref u]) Q s0 := by
  obtain ⟨n, ho'⟩ := ho.out
  refine bm_call bmL_remove T ho' rfl (by unfold argsOk; kernel_rfl) ?_
  show wpAny _ _ (pure (Fin.again (.builtin "list.remove.loop" ⟨[.ref a, .ref u, rawInt ((0 : Nat) : Int)], []⟩))) _ _ s0
  exact wpAny_pure ⟨plainId_quiet (by decide +kernel) _, c_removeT pre (hA.le (by decide)) T hx hu hpre h0 ho hz (R := Rv Q) (fun s' h' G h1 h2 => h s' h' G h1 h2) pre.length 0 (Nat.zero_add _) s0 (Grow.refl _)⟩
end
end Mine
end

section
open PySem PySem.W PySem.Calls PyProof.Rows
namespace Mine

/-- the domains are whole: nothing hidden, no states -/
def Zp (n : Nat) (Z : DSt) : Prop := ∀ y, y < n → (Z.X y).Perm [0, 1] ∧ Z.H y = [] ∧ Z.T y = []
theorem Zp.zero {n : Nat} : Zp n Z0 := fun y _ => ⟨List.Perm.refl _, rfl, rfl⟩
theorem Zp.ok {n : Nat} {Z : DSt} (h : Zp n Z) : ZOk n Z := ⟨fun y hy => perm01_nodup (h y hy).1, fun y hy => by
  obtain ⟨h1, h2, h3⟩ := h y hy
  have := h1.length_eq
  rw [h2]; simp at this ⊢; omega⟩
theorem Zp.eff {n : Nat} {Z Z' : DSt} {bad : Nat → Int → Prop} (h : Zp n Z) (hb : ∀ y v, y < n → ¬ bad y v) (E : Eff n bad Z Z') : Zp n Z' := by
  intro y hy
  obtain ⟨h1, h2, h3⟩ := h y hy
  obtain ⟨B, e1, e2, e3⟩ := E.dom y hy
  have hB : B = [] := by
    cases B with
    | nil => rfl
    | cons v r => exact absurd (e3 v List.mem_cons_self) (hb y v hy)
  subst hB
  rw [List.append_nil] at e1 e2
  exact ⟨e2.trans h1, e1.trans h2, by rw [E.T]; exact h3⟩
theorem Zp.len {n : Nat} {Z : DSt} (h : Zp n Z) {y : Nat} (hy : y < n) : (Z.X y).length = 2 := by simpa using (h y hy).1.length_eq
theorem Zp.le1 {n : Nat} {Z : DSt} (h : Zp n Z) {y : Nat} (hy : y < n) {v : Int} (hv : v ∈ Z.X y) : v ≤ 1 := by
  have := (h y hy).1.subset hv
  simp at this
  omega

section
variable {w : World} {D : Nat → DA} {n : Nat} {Z : DSt} {E : Sto Lab} {c : Cx} {P : List (Addr × (Obj → Prop))} {m cm : Loc} {s s' : Shared}
theorem St.putE (X : St c P m cm (cS D n Z E) s) (l : Lab) {a : Addr} {φ φ' : Obj → Prop} {h' : Heap} {t : Nat} (ea : E l = some (a, φ)) (hh : Has h' a φ') (hs : Heap.SameBut a s.heap h') (hl : 3 ≤ l.1 := by decide) :
    St c P m cm (cS D n Z (updS E l (a, φ'))) { s with heap := h', toks := t } := by
  have e0 : cS D n Z E l = some (a, φ) := by unfold cS; rw [if_neg (by omega)]; exact ea
  refine (X.set (t := t) e0 hh hs).sto ?_
  rintro ⟨j, y⟩ p e
  unfold cS updS at e
  unfold cS updS
  by_cases q : (j, y) = l
  · subst q
    rw [if_neg (by omega)] at e
    rw [if_pos rfl] at e ⊢
    exact e
  · rw [if_neg q]
    rw [if_neg q] at e
    exact e
theorem cs_e {l : Lab} {p : Addr × (Obj → Prop)} (h : E l = some p) (hl : 3 ≤ l.1 := by decide) : cS D n Z E l = some p := by unfold cS; rw [if_neg (by omega)]; exact h
end

section
variable {w : World} {A : Around} {s : Shared} {env : Env}
/-- a dict of one int key -/
theorem d_one {k v : Expr} {pos : Pos} {Q : Value → Shared → Prop} (T : Stat w s.heap)
    (h : ∀ s₀, Grow s s₀ → WA w A (eval k env) (fun kv s₁ => WA w A (eval v env) (fun vv s₂ => s₂ = s₀ ∧ ∃ i t, kv = .int i t ∧
      ∀ d s', Grow s s' → Has s'.heap d (DicK w [(i, vv)]) → s.heap.get? d = none → (d == sysModules) = false → Q (.ref d) s') s₁) s₀) : WA w A (eval (.Dict [some k] [v] pos) env) Q s := by
  refine wpAny_Dict_pairs (knd := KI w) (pairs := [(eval k env, do let x ← eval v env; standAt pos; pure x)]) rfl (by simp) (by simp) ?_
  have G : Grow s { s with heap := s.heap.push { cls := .type "dict", data := .dict #[] } } := Grow.alloc s _
  show wpAny _ _ (do
    let kv ← eval k env
    let vv ← holding [kv] (do let x ← eval v env; standAt pos; pure x)
    return (kv, vv) :: (← holding [kv, vv] (evalPairs []))) _ _ _
  refine wpAny_bind (wpAny_mono (h _ G) (fun kv s₁ h₁ => ?_) fun _ _ x => x.elim)
  refine wpAny_bind (wpAny_holding (wpAny_bind (wpAny_mono h₁ (fun vv s₂ h₂ => ?_) fun _ _ x => x.elim)))
  obtain ⟨rfl, i, t, rfl, hQ⟩ := h₂
  refine wpAny_bind (wpAny_standAt (wpAny_pure ?_))
  refine wpAny_bind (wpAny_holding (wpAny_pure (wpAny_pure ?_)))
  refine ⟨[(i, vv)], ⟨intKind_is Pr w i t, rfl, trivial⟩, ?_, fun h' hd hs => ?_⟩
  · refine Has.dictOf (w := w) ⟨_, Heap.get?_push_size _ rfl, 0, ⟨rfl, rfl, rfl⟩, #[], rfl, ?_, ?_, ?_⟩
    · intro e he; simp at he
    · exact Pairs.nil
    · simp
  · refine hQ _ _ ⟨⟨fun a o e => ?_⟩, .refl _, rfl, rfl⟩ (Has.dictK hd) (Heap.get?_none_of_le (Nat.le_refl _)) (notSys T (Nat.le_refl _))
    have hne : a ≠ s.heap.objs.size := Nat.ne_of_lt (Heap.lt_size e)
    exact (hs.2 a hne).trans (Heap.get?_push_of_some _ e)
end

/-- the two lists that the singleton row's preProcess turns -/
def cpE (c2 : Addr) (xs : List Value) (y : Nat) (vly : Addr) (ys : List Value) : Sto Lab := fun l => if l = (12, 0) then some (c2, LstI xs) else if l = (15, y) then some (vly, LstI ys) else none
/-- a tuple with another constraint (371) -/
def OtherG (g : Heap) (x : Addr) (p : Value) : Prop := ∃ t y dy v' od, p = .ref t ∧ Has g t (TupI [.ref y, v']) ∧ g.get? y = some (instObj 371 dy) ∧ g.get? dy = some od ∧ y ≠ x

section
variable {w : World} {A : Around} {s : Shared} {g : Heap} {D : Nat → DA} {n : Nat} {Z : DSt}
theorem cpre_skip {x va : Addr} {dm c2 vc : Value} {ns : List Int} {Q : Value → Shared → Prop} (hA : Ok A 3) (hg : Sub g s.heap) (T : Stat w g) (gV : Has g va (LstN ns)) (h1 : ns.length ≠ 1) (hz : ns.length ≤ 100)
    (h : ∀ s', Chg g s s' → Q .none s') : codeAny (model Pr w) A (.call (.ref 297) ⟨[.ref x, .ref va, dm, c2, vc], []⟩) (Rv Q) s := by
  obtain ⟨vs, iv, gV⟩ := gV.ints
  have lv := ints_length iv
  refine r_enterC (S := noS) (binds := [("self", .ref x), ("variables", .ref va), ("domains", dm), ("constraints", c2), ("vconstraints", vc)]) (by exact rfl) hA.room hg T (by kernel_rfl) (BindsTo.of_eq rfl) (by rfl) (Led.nil _ _) fun Lc s₂ S => ?_
  refine r_if (t_cmp (r_callName (r_built (S.stat T) nb_len bt_len (r_cw (args_cons (r_local S rfl (args_nil ⟨keeps_builtin _ _, b_len (S.stat T) bmL__len__ (S.baseH gV) (by omega) fun t s' g' => ?_⟩)))))))
  have S := S.grow g'
  refine r_int fun t' s' g' => P.eq_int (tr_bool ?_)
  have S := S.grow g'
  rw [if_neg (by simp; omega)]
  exact r_nil (k_next (r_nil (h _ S.chg)))

theorem cpre_one {x dx va dm c2 vc t0 t1 : Addr} {y : Nat} {vl : Nat → Addr} {pre post post1 : List Value} {Q : Value → Shared → Prop} (hA : Ok A 14) (hg : Sub g s.heap) (T : Stat w g)
    (gx : g.get? x = some (instObj 371 dx)) (gd : Has g dx (MsD w 1)) (gV : Has g va (LstN [(y : Int)])) (hy : y < n) (B : DomB w g D n) (hdm : Has g dm (DicK w (domKv D n)))
    (hvc : Has g vc (DicK w ((List.range n).map fun (i : Nat) => ((i : Int), Value.ref (vl i)))))
    (h0 : Has g t0 (TupI [.ref x, .ref va])) (h1 : Has g t1 (TupI [.ref x, .ref va])) (hpre : ∀ p ∈ pre, OtherG g x p) (z1 : (pre ++ .ref t0 :: post).length ≤ 900) (z2 : (Value.ref t1 :: post1).length ≤ 900)
    (hZ : Zp n Z) (L : Led g s.heap (cS D n Z (cpE c2 (pre ++ .ref t0 :: post) y (vl y) (.ref t1 :: post1))))
    (h : ∀ s' Z', Chg g s s' → Zp n Z' → Led g s'.heap (cS D n Z' (cpE c2 (pre ++ post) y (vl y) post1)) → Q .none s') :
    codeAny (model Pr w) A (.call (.ref 297) ⟨[.ref x, .ref va, .ref dm, .ref c2, .ref vc], []⟩) (Rv Q) s := by
  obtain ⟨vs, iv, gV'⟩ := gV.ints
  have lv := ints_length iv
  rw [List.length_singleton] at lv
  obtain ⟨ty, hty⟩ := ints_get' iv (i := 0) (k := (y : Int)) rfl
  refine r_enterC (binds := [("self", .ref x), ("variables", .ref va), ("domains", .ref dm), ("constraints", .ref c2), ("vconstraints", .ref vc)]) (by exact rfl) hA.room hg T (by kernel_rfl) (BindsTo.of_eq rfl) (by rfl) L fun Lc s₂ S => ?_
  refine r_if (t_cmp (r_callName (r_built (S.stat T) nb_len bt_len (r_cw (args_cons (r_local S rfl (args_nil ⟨keeps_builtin _ _, b_len (S.stat T) bmL__len__ (S.baseH gV') (by omega) fun t s' g' => ?_⟩)))))))
  have S := S.grow g'
  refine r_int fun t' s' g' => P.eq_int (tr_bool ?_)
  have S := S.grow g'
  rw [if_pos (by simp; omega)]
  refine r_assign (r_sub (r_local S rfl (r_int fun t2 s' g' => ?_)))
  have S := S.grow g'
  refine ⟨inPyList (S.stat T) (S.baseH gV'), l_get (i := 0) (S.baseH gV') hty (by omega) ?_⟩
  refine r_store S fun s' S => ?_
  refine r_assign (r_sub (r_local S rfl (r_local S rfl ⟨inPyDict (S.baseH hdm), d_get (S.baseH hdm) (domKv_at D hy) fun s' g' => ?_⟩)))
  have S := S.grow g'
  refine r_store S fun s' S => ?_
  refine r_for (r_copy (r_local S rfl ⟨_, _, _, _, rfl, S.stat T, S.at (cs_d hy), sk_dom, bmD__getitem__, by have := hZ.len hy; omega, fun l s' g' hll hlf => ?_⟩))
  obtain ⟨us, iu, hu⟩ := hll.ints
  have lu := ints_length iu
  have S := S.newE g' (20, 0) hu hlf
  refine .mk (fun j m cm S => ∃ Z2, m = lo [("domain", .ref (D y).d), ("variable", .int (y : Int) ty), ("self", .ref x), ("variables", .ref va), ("domains", .ref dm), ("constraints", .ref c2), ("vconstraints", .ref vc)] ∧ cm = [] ∧
      S = cS D n Z2 (updS (cpE c2 (pre ++ .ref t0 :: post) y (vl y) (.ref t1 :: post1)) (20, 0) (l, LstI us)) ∧ Zp n Z2)
    (itb_list hA.hd (S.at (l := (20, 0)) rfl)) ⟨_, _, _, ⟨Z, rfl, rfl, rfl, hZ⟩, S.fit⟩ (fun i P' m cm S s hi X => ?_) (fun j I ψ m cm S s v hj hv hval S => ?_) fun m cm S s hv S => ?_
  · obtain ⟨Z2, rfl, rfl, rfl, _⟩ := hi
    exact X.at (l := (20, 0)) rfl
  · obtain ⟨Z2, rfl, rfl, rfl, hZ2⟩ := hv
    obtain ⟨k, tk, hk, rfl⟩ := ints_get iu hval
    have hk1 : k ≤ 1 := hZ.le1 hy (List.mem_of_getElem? hk)
    refine a_name (r_store S fun s S => ?_)
    refine r_if (t_not (t_call (r_callName (r_local S rfl (r_cw (args_cons (r_local S rfl (args_cons (r_local S rfl (args_cons (d_one (S.stat T) fun s₀ g₀ => ?_)))))))))))
    refine r_local (S.grow g₀) rfl (r_local (S.grow g₀) rfl ⟨rfl, _, _, rfl, fun as s' g' has hasf hsys => ?_⟩)
    have S := S.newE g' (20, 1) has hasf
    refine args_cons (r_bool (args_nil ⟨keeps_plain (S.base gx) rfl, ?_⟩))
    obtain ⟨g2, h1', h2', h3', h4', h5'⟩ := S.call2 (Sc := cS D n Z2 noS2) cs_sub
    obtain ⟨od, gd', hod⟩ := gd
    refine call_inst (S.stat T) (S.base gx) (S.base gd') (f := 368) (by kernel_rfl) (by kernel_rfl) (by kernel_rfl) ?_
    have hasg : Has g2 as (DicN w [((y : Int), k)]) := (h4' (20, 1) as _ (cs_e rfl) (by rfl)).ofKv (.cons _ _ _ .nil)
    refine maxsum_call (a := [((y : Int), k)]) (vars := [y]) (fb := false) (hA.deeper (k := 13) |>.le (by decide)) h1' (T.mono h2'.get) (h2'.get _ _ gx) ⟨od, h2'.get _ _ gd', hod⟩
      ⟨B.mono h2', gV.mono h2', fun z hz => by rw [List.mem_singleton] at hz; rw [hz]; exact hy, by simp, hdm.mono h2', hasg, hsys, .inl ⟨rfl, rfl⟩⟩ h3' hZ2.ok fun s' b Z3 c1 L' E hf ht => ?_
    have hlk : [((y : Int), k)].lookup (y : Int) = some k := by simp
    have hb : b = true := by
      cases b with
      | true => rfl
      | false =>
        rcases hf rfl with q | ⟨z, hz, hn, _⟩
        · exfalso
          have : asgSum [((y : Int), k)] [y] = k := by simp [asgSum]
          omega
        · rw [List.mem_singleton] at hz
          rw [hz, hlk] at hn; cases hn
    subst hb
    have hZ3 : Zp n Z3 := hZ2.eff (fun z u _ hb => by
      have hz := hb.1
      rw [List.mem_singleton] at hz
      have := hb.2.1
      rw [hz, hlk] at this; cases this) E
    have S := (h5' s' _ c1 L').sto (cs_over (Z' := Z3))
    refine tr_bool ?_
    rw [if_neg (by decide)]
    refine r_nil (k_next (r_nil ⟨_, _, _, ⟨Z3, rfl, rfl, rfl, hZ3⟩, ?_⟩))
    exact S.fit.dropE fun l p e => by
      unfold updS at e ⊢
      by_cases q : l = (20, 1)
      · subst q
        cases e
      · rw [if_neg q]; exact e
  obtain ⟨Z2, rfl, rfl, rfl, hZ2⟩ := hv
  refine r_nil (k_next ?_)
  have apart : ∀ {u : Addr} {o : Obj}, g.get? u = none → ∀ p ∈ pre, OtherG g x p → ∀ {h : Heap}, Sub g h → OtherT h x u p := fun {u o} hn p _ hp {h} hs => by
    obtain ⟨t, yy, dy, v', od, rfl, e1, e2, e3, e4⟩ := hp
    refine ⟨t, yy, dy, v', od, rfl, e1.mono hs, ?_, hs.get _ _ e2, hs.get _ _ e3, e4⟩
    rintro rfl
    obtain ⟨_, e1, _⟩ := e1
    rw [hn] at e1; cases e1
  refine r_expr (r_callMeth (r_local S rfl (m_list bmL_remove (S.stat T) (S.at (l := (12, 0)) rfl) ?_)))
  refine r_cw (args_cons (r_tuple (args_cons (r_local S rfl (args_cons (r_local S rfl (args_nil ⟨by simp, fun u s' g' hu' huf => args_nil ⟨keeps_builtin _ _, ?_⟩⟩)))))))
  have S := S.newE g' (20, 2) hu' huf
  refine b_removeT (hA.deeper (k := 13) |>.le (by decide)) (S.stat T) (S.base gx) (S.at (l := (20, 2)) rfl) (fun p hp => apart (o := default) (S.fresh (l := (20, 2)) rfl) p hp (hpre p hp) S.chg.sub) (S.baseH h0) (S.at (l := (12, 0)) rfl) z1 fun s' h' g' hh hs => ?_
  have S := (S.grow g').putE (12, 0) (t := s'.toks) (φ := LstI (pre ++ .ref t0 :: post)) rfl hh hs
  refine r_expr (r_callMeth (r_sub (r_local S rfl (r_local S rfl ⟨inPyDict (S.baseH hvc), d_get (S.baseH hvc) (kvf_at vl hy) fun s'' g'' => ?_⟩))))
  have S := S.grow g''
  have e15 : ∀ {p1 p2 p3 : Addr × (Obj → Prop)}, (updS (updS (updS (cpE c2 (pre ++ .ref t0 :: post) y (vl y) (.ref t1 :: post1)) (20, 0) p1) (20, 2) p2) (12, 0) p3) (15, y) = some (vl y, LstI (.ref t1 :: post1)) := by
    intro p1 p2 p3
    unfold updS cpE
    simp
  refine m_list bmL_remove (S.stat T) (S.at (cs_e e15 (by show 3 ≤ 15; decide))) ?_
  refine r_cw (args_cons (r_tuple (args_cons (r_local S rfl (args_cons (r_local S rfl (args_nil ⟨by simp, fun u' s' g' hu2 huf2 => args_nil ⟨keeps_builtin _ _, ?_⟩⟩)))))))
  have S := S.newE g' (20, 3) hu2 huf2
  have e15' : ∀ {p1 p2 p3 p4 : Addr × (Obj → Prop)}, (updS (updS (updS (updS (cpE c2 (pre ++ .ref t0 :: post) y (vl y) (.ref t1 :: post1)) (20, 0) p1) (20, 2) p2) (12, 0) p3) (20, 3) p4) (15, y) = some (vl y, LstI (.ref t1 :: post1)) := by
    intro p1 p2 p3 p4
    unfold updS cpE
    simp
  refine b_removeT (pre := []) (hA.deeper (k := 13) |>.le (by decide)) (S.stat T) (S.base gx) (S.at (l := (20, 3)) rfl) (fun p hp => by cases hp) (S.baseH h1) (S.at (cs_e e15' (by show 3 ≤ 15; decide))) z2 fun s' h' g' hh hs => ?_
  have S := (S.grow g').putE (15, y) (t := s'.toks) e15' hh hs (by show 3 ≤ 15; decide)
  refine r_nil (k_next (r_nil (h _ Z2 S.chg hZ2 (Led.sub S.led fun l p e => ?_))))
  unfold cS at e ⊢
  split at e
  · rename_i q; rw [if_pos q]; exact e
  · rename_i q; rw [if_neg q]
    unfold cpE at e
    by_cases q1 : l = (12, 0)
    · subst q1
      rw [if_pos rfl] at e
      unfold updS
      simpa using e
    · rw [if_neg q1] at e
      by_cases q2 : l = (15, y)
      · subst q2
        rw [if_pos rfl] at e
        unfold updS
        simpa using e
      · rw [if_neg q2] at e; cases e
end
end Mine
end

section
open PySem PySem.W PySem.Calls PyProof.Rows
namespace Mine
theorem over2_all {S S' : Sto Lab} : ∀ l p, S' l = some p → over2 S S' S l = some p := fun l p e => over2_new e

section
variable {w : World} {A : Around} {s : Shared} {g : Heap} {D : Nat → DA} {n : Nat} {Z : DSt}
theorem m_preProc {pl : Sem Bool} {Q : Value × List Value → Shared → Prop} (T : Stat w s.heap) (h : ∀ s', Grow s s' → Q (.ref 297, []) s') : WA w A (getMethod (.ref 308) "preProcess" pl) Q s :=
  method_cls T.K (by kernel_rfl) (cls_value (mc := .type "type") (v := .ref 297) T.K (by kernel_rfl) (by kernel_rfl) (by rfl) (h _ (Grow.tok s _)))

/-- MaxSumConstraint.preProcess, whatever Constraint.preProcess does to the lists -/
theorem mpre {x dx va dm c2 vc : Addr} {vars : List Nat} {E E' : Sto Lab} {Q : Value → Shared → Prop} (hA : Ok A 16) (hE' : E' (22, 0) = none) (hg : Sub g s.heap) (T : Stat w g)
    (gx : g.get? x = some (instObj 371 dx)) (gd : Has g dx (MsD w 1)) (gV : Has g va (LstN (natsV vars))) (lt : ∀ y ∈ vars, y < n) (len : vars.length ≤ 100) (hdm : Has g dm (DicK w (domKv D n)))
    (hc : ∀ (A' : Around) (s' : Shared) (g' : Heap) (Q' : Value → Shared → Prop), Ok A' 14 → Sub g' s'.heap → Stat w g' → Sub g g' → Led g' s'.heap (cS D n Z E) → (∀ s2 Z', Chg g' s' s2 → Zp n Z' → Led g' s2.heap (cS D n Z' E') → Q' .none s2) →
      codeAny (model Pr w) A' (.call (.ref 297) ⟨[.ref x, .ref va, .ref dm, .ref c2, .ref vc], []⟩) (Rv Q') s')
    (L : Led g s.heap (cS D n Z E)) (h : ∀ s' Z', Chg g s s' → Zp n Z' → Led g s'.heap (cS D n Z' E') → Q .none s') :
    codeAny (model Pr w) A (.call (.ref 360) ⟨[.ref x, .ref va, .ref dm, .ref c2, .ref vc], []⟩) (Rv Q) s := by
  obtain ⟨vs, iv, gV'⟩ := gV.ints
  have lv := ints_length iv
  rw [List.length_map] at lv
  obtain ⟨od, gd, q, tms, rfl⟩ := gd
  refine r_enterC (binds := [("self", .ref x), ("variables", .ref va), ("domains", .ref dm), ("constraints", .ref c2), ("vconstraints", .ref vc)]) (by exact rfl) hA.room hg T (by kernel_rfl) (BindsTo.of_eq rfl) (by rfl) L fun Lc s₂ S => ?_
  refine r_expr (r_callMeth (r_glob (S.stat T) ng_Constraint (m_preProc (S.stat T) fun s' g' => ?_)))
  have S := S.grow g'
  refine r_cw (args_cons (r_local S rfl (args_cons (r_local S rfl (args_cons (r_local S rfl (args_cons (r_local S rfl (args_cons (r_local S rfl (args_nil ⟨keeps_K (S.stat T).K (by kernel_rfl), ?_⟩)))))))))))
  obtain ⟨g2, h1, h2, h3, h4, h5⟩ := S.call2 (Sc := cS D n Z E) (fun l p e => e)
  refine wpAny_call (codeAny_mono (hc _ _ _ (fun v s' => v = .none ∧ ∃ Z', Chg g2 _ s' ∧ Zp n Z' ∧ Led g2 s'.heap (cS D n Z' E')) (hA.deeper (k := 15) |>.le (by decide)) h1 (T.mono h2.get) h2 h3 fun s2 Z' a b c => ⟨rfl, Z', a, b, c⟩) fun r s' z => ?_)
  rcases r with e | (v | _ | _ | _) <;> first | exact z.elim | skip
  obtain ⟨rfl, Z', c1, hZ, L'⟩ := z
  have S := (h5 s' _ c1 L').sto (over2_all (S' := cS D n Z' E'))
  refine r_assign (r_attr (r_local S rfl (attr_plain (S.stat T) (S.base gx) (S.base gd) ga_ms (fo_mult q _) rfl fun s' g' => ?_)))
  have S := S.grow g'
  refine r_store S fun s' S => ?_
  refine r_assign (r_attr (r_local S rfl (attr_plain (S.stat T) (S.base gx) (S.base gd) ga_ms (fo_maxsum q _) rfl fun s' g' => ?_)))
  have S := S.grow g'
  refine r_store S fun s' S => ?_
  refine r_if (t_name (r_local S rfl (tr_none ?_)))
  rw [if_neg (by decide)]
  refine r_for (r_local S rfl (.mk (fun i m cm S => m = lo [("maxsum", .int 1 tms), ("domains", .ref dm), ("variables", .ref va)] ∧ cm = [] ∧ S = cS D n Z' E')
    (itb_list hA.hd (S.baseH gV')) ⟨_, _, _, ⟨rfl, rfl, rfl⟩, S.fit⟩ (fun i P' m cm S s hi X => X.baseH gV') (fun i I ψ m cm S s v hi hv hval S => ?_) fun m cm S s hv S => ?_))
  · obtain ⟨rfl, rfl, rfl⟩ := hv
    obtain ⟨y, ty, hy, rfl⟩ := vars_get iv hval
    have yn := lt y (List.mem_of_getElem? hy)
    refine a_name (r_store S fun s S => ?_)
    refine r_assign (r_sub (r_local S rfl (r_local S rfl ⟨inPyDict (S.baseH hdm), d_get (S.baseH hdm) (domKv_at D yn) fun s' g' => ?_⟩)))
    have S := S.grow g'
    refine r_store S fun s' S => ?_
    refine r_for (r_copy (r_local S rfl ⟨_, _, _, _, rfl, S.stat T, S.at (cs_d yn), sk_dom, bmD__getitem__, by have := hZ.len yn; omega, fun l s' g' hll hlf => ?_⟩))
    obtain ⟨us, iu, hu⟩ := hll.ints
    have S := S.newE g' (22, 0) hu hlf
    refine .mk (fun j m cm S => m = lo [("maxsum", .int 1 tms), ("domains", .ref dm), ("variables", .ref va)] ∧ cm = [] ∧ S = cS D n Z' (updS E' (22, 0) (l, LstI us)))
      (itb_list hA.hd (S.at (l := (22, 0)) (cs_e (if_pos rfl)))) ⟨_, _, _, ⟨rfl, rfl, rfl⟩, S.fit⟩ (fun i P' m cm S s hi X => ?_) (fun j I ψ m cm S s v hj hv hval S => ?_) fun m cm S s hv S => ?_
    · obtain ⟨rfl, rfl, rfl⟩ := hi
      exact X.at (l := (22, 0)) (cs_e (if_pos rfl))
    · obtain ⟨rfl, rfl, rfl⟩ := hv
      obtain ⟨k, tk, hk, rfl⟩ := ints_get iu hval
      have hk1 : k ≤ 1 := hZ.le1 yn (List.mem_of_getElem? hk)
      refine a_name (r_store S fun s S => ?_)
      refine r_if (t_cmp (r_local S rfl (r_local S rfl (P.gt_int (tr_bool ?_)))))
      rw [if_neg (by simp; omega)]
      exact r_nil (k_next (r_nil ⟨_, _, _, ⟨rfl, rfl, rfl⟩, S.fit⟩))
    · obtain ⟨rfl, rfl, rfl⟩ := hv
      refine r_nil (k_next (r_nil ⟨_, _, _, ⟨rfl, rfl, rfl⟩, ?_⟩))
      exact S.fit.dropE fun l p e => by
        unfold updS
        by_cases q : l = (22, 0)
        · subst q; rw [hE'] at e; cases e
        · rw [if_neg q]; exact e
  · obtain ⟨rfl, rfl, rfl⟩ := hv
    exact r_nil (k_next (r_nil (k_next (r_nil (h _ Z' S.chg hZ S.led)))))
end
end Mine
end

section
open PySem PySem.W PySem.Calls PyProof.Rows
namespace Mine

theorem intsOf : ∀ {vs : List Value} {ns : List Int}, vs.length = ns.length → (∀ (i : Nat) (v : Value), vs[i]? = some v → ∃ k t, ns[i]? = some k ∧ v = .int k t) → IntsAre vs ns
  | [], [], _, _ => .nil
  | [], _ :: _, h, _ => by simp at h
  | _ :: _, [], h, _ => by simp at h
  | v :: vs, n :: ns, h, hp => by
    obtain ⟨k, t, h1, rfl⟩ := hp 0 v rfl
    cases h1
    exact .cons n t (intsOf (by simpa using h) fun i u hu => by
      obtain ⟨k, t, h1, h2⟩ := hp (i + 1) u (by simpa using hu)
      exact ⟨k, t, by simpa using h1, h2⟩)

section
variable {w : World} {A : Around} {s : Shared} {env : Env}
/-- list(d): the keys -/
theorem b_listDict {d : Addr} {kvs : List (Int × Value)} {Q : Value → Shared → Prop} (hh : A.handled = none) (lo : (d == sysModules) = false) (hd : Has s.heap d (DicK w kvs)) (hz : kvs.length ≤ 900)
    (h : ∀ l s', Grow s s' → Has s'.heap l (LstN (kvs.map (·.1))) → s.heap.get? l = none → Q (.ref l) s') : WA w A (call (.type "list") [.ref d]) Q s := by
  obtain ⟨ep, hd⟩ := hd.ep
  refine kdl_call (kdl_dict (knd := KI w) (kvs := kvs) (ep := ep) lo) hh hd.dictAt (by rw [sizeLine_eq]; omega) fun h' tk acc' c' hk hl hi => ?_
  refine h _ _ ⟨⟨hk⟩, .refl _, rfl, rfl⟩ ?_ (Heap.get?_none_of_le (Nat.le_refl _))
  have iv : IntsAre acc'.toList (kvs.map (·.1)) := intsOf (by rw [Array.length_toList, hi.1, List.length_map]) fun i v hv => by
    obtain ⟨k, x, e1, e2⟩ := hi.2 i v (by rw [← Array.getElem?_toList]; exact hv)
    obtain ⟨t, rfl⟩ := Value.isInt_shape e2
    exact ⟨k, t, by rw [List.getElem?_map, e1]; rfl, rfl⟩
  refine Has.ofInts iv (Has.seq (n := c') ?_)
  rw [hl]
/-- d.values() -/
theorem b_values {d : Addr} {kvs : List (Int × Value)} {Q : Value → Shared → Prop} (T : Stat w s.heap) (hs : (d == sysModules) = false) (hd : Has s.heap d (DicK w kvs))
    (h : ∀ v s', Grow s s' → s'.heap.IsValuesView v d → s.heap.get? v = none → Q (.ref v) s') : WA w A (call (.builtin "dict.values") [.ref d]) Q s := by
  obtain ⟨o, ho, ep, hx, _⟩ := id hd
  refine bm_call bmDict_values T ho hx.1 (by unfold argsOk; kernel_rfl) ?_
  have g := meets_dict_values (prog := Pr) (w := w) (KI w) d hs A (Rv Q) s ⟨⟨kvs, hd.dictOf⟩, ?_⟩
  · exact wpAny_mono g (fun fin s' z => by rcases fin with (_ | _ | _ | _) | _ <;> exact z) fun _ _ z => z
  · exact h _ _ (Grow.alloc s _) ⟨_, Heap.get?_push_size _ rfl, rfl, rfl⟩ (Heap.get?_none_of_le (Nat.le_refl _))
end

/-- labels from 30 on are the frames around -/
def addE (E X : Sto Lab) : Sto Lab := fun l => if l.1 < 30 then E l else X l

section
variable {w : World} {D : Nat → DA} {n : Nat} {Z : DSt} {E E' X : Sto Lab} {c : Cx} {P : List (Addr × (Obj → Prop))} {m cm : Loc} {s s' : Shared}
theorem addE_lo {l : Lab} {p : Addr × (Obj → Prop)} (h : E l = some p) (hl : l.1 < 30 := by decide) : addE E X l = some p := by unfold addE; rw [if_pos hl]; exact h
theorem updE_sub {l : Lab} {p : Addr × (Obj → Prop)} (h : ∀ l' q, E' l' = some q → (l' = l ∧ q = p) ∨ (l' ≠ l ∧ E l' = some q)) : ∀ l' q, E' l' = some q → updS E l p l' = some q := by
  intro l' q e
  unfold updS
  rcases h l' q e with ⟨rfl, rfl⟩ | ⟨h1, h2⟩
  · rw [if_pos rfl]
  · rw [if_neg h1]; exact h2
theorem St.newA (Y : St c P m cm (cS D n Z (addE E X)) s) (G : Grow s s') (l : Lab) {a : Addr} {φ : Obj → Prop} (hh : Has s'.heap a φ) (hf : s.heap.get? a = none)
    (h : ∀ l' q, E' l' = some q → (l' = l ∧ q = (a, φ)) ∨ (l' ≠ l ∧ E l' = some q)) (hl : 3 ≤ l.1 := by decide) (hl2 : l.1 < 30 := by decide) : St c P m cm (cS D n Z (addE E' X)) s' := by
  refine (Y.newE G l hh hf hl).dropE fun l' q e => ?_
  unfold addE at e
  unfold updS addE
  by_cases h30 : l'.1 < 30
  · rw [if_pos h30] at e
    rcases h l' q e with ⟨rfl, rfl⟩ | ⟨h1, h2⟩
    · rw [if_pos rfl]
    · rw [if_neg h1, if_pos h30]; exact h2
  · rw [if_neg h30] at e
    rw [if_neg (by rintro rfl; exact h30 hl2), if_neg h30]; exact e
theorem St.putA (Y : St c P m cm (cS D n Z (addE E X)) s) (l : Lab) {a : Addr} {φ φ' : Obj → Prop} {h' : Heap} {t : Nat} (ea : E l = some (a, φ)) (hh : Has h' a φ') (hs : Heap.SameBut a s.heap h')
    (h : ∀ l' q, E' l' = some q → (l' = l ∧ q = (a, φ')) ∨ (l' ≠ l ∧ E l' = some q)) (hl : 3 ≤ l.1 := by decide) (hl2 : l.1 < 30 := by decide) :
    St c P m cm (cS D n Z (addE E' X)) { s with heap := h', toks := t } := by
  refine (Y.putE l (t := t) (addE_lo ea hl2) hh hs hl).dropE fun l' q e => ?_
  unfold addE at e
  unfold updS addE
  by_cases h30 : l'.1 < 30
  · rw [if_pos h30] at e
    rcases h l' q e with ⟨rfl, rfl⟩ | ⟨h1, h2⟩
    · rw [if_pos rfl]
    · rw [if_neg h1, if_pos h30]; exact h2
  · rw [if_neg h30] at e
    rw [if_neg (by rintro rfl; exact h30 hl2), if_neg h30]; exact e
theorem St.atA (Y : St c P m cm (cS D n Z (addE E X)) s) {l : Lab} {a : Addr} {φ : Obj → Prop} (h : E l = some (a, φ)) (hl : 3 ≤ l.1 := by decide) (hl2 : l.1 < 30 := by decide) : Has s.heap a φ := Y.at (cs_e (addE_lo h hl2) hl)
theorem St.freshA (Y : St c P m cm (cS D n Z (addE E X)) s) {l : Lab} {a : Addr} {φ : Obj → Prop} (h : E l = some (a, φ)) (hl : 3 ≤ l.1 := by decide) (hl2 : l.1 < 30 := by decide) : c.g.get? a = none := Y.fresh (cs_e (addE_lo h hl2) hl)
end
section
variable {w : World} {D : Nat → DA} {n : Nat} {Z : DSt} {E E' X : Sto Lab} {g : Heap} {L : Addr} {cs : List (Str × Addr)} {s0 : Shared} {P : List (Addr × (Obj → Prop))} {m cm : Loc} {s s' : Shared}
/-- a part of the ledger is frozen -/
theorem St.freezeA (Y : St ⟨g, L, cs, s0⟩ P m cm (cS D n Z (addE E X)) s) (E' : Sto Lab) (h : ∀ l p, E' l = some p → E l = some p) :
    ∃ g', Sub g g' ∧ St ⟨g', L, cs, s0⟩ P m cm (cS D n Z (addE E' X)) s ∧ (∀ l a φ, 3 ≤ l.1 → l.1 < 30 → E l = some (a, φ) → E' l = none → Has g' a φ) := by
  obtain ⟨g', h1, h2, h3, h4⟩ := Y.freeze (S' := cS D n Z (addE E' X)) (fun l p e => by
    unfold cS addE at e ⊢
    by_cases q : l.1 < 3
    · rw [if_pos q] at e ⊢; exact e
    · rw [if_neg q] at e ⊢
      by_cases q2 : l.1 < 30
      · rw [if_pos q2] at e ⊢; exact h _ _ e
      · rw [if_neg q2] at e ⊢; exact e)
  refine ⟨g', h1, h3, fun l a φ q1 q2 e en => h4 l a φ (cs_e (addE_lo e q2) q1) ?_⟩
  unfold cS addE
  rw [if_neg (by omega), if_pos q2]; exact en
end
end Mine
end

section
open PySem PySem.W PySem.Calls PyProof.Rows
namespace Mine
section
variable {N i : Nat} {d : Nat → Bool}
/-- stage i: the dropped ones below i are gone -/
def stg (d : Nat → Bool) (i : Nat) (j : Nat) : Bool := !(decide (j < i) && d j)
theorem stg_keep (h : d i = false) : ∀ j, stg d (i + 1) j = stg d i j := by
  intro j
  unfold stg
  by_cases e : j = i
  · subst e; simp [h]
  · have : decide (j < i + 1) = decide (j < i) := by rw [decide_eq_decide]; omega
    rw [this]
theorem stg_ne {j : Nat} (h : j ≠ i) : stg d (i + 1) j = stg d i j := by
  unfold stg
  have : decide (j < i + 1) = decide (j < i) := by rw [decide_eq_decide]; omega
  rw [this]
theorem stg_zero (j : Nat) : stg d 0 j = true := by simp [stg]
theorem stg_ge {j : Nat} (h : i ≤ j) : stg d i j = true := by simp [stg]; omega
theorem stg_lt {j : Nat} (h : j < i) : stg d i j = !d j := by simp [stg, h]
theorem range_split (hi : i < N) : List.range N = List.range i ++ i :: List.range' (i + 1) (N - i - 1) := by
  rw [List.range_eq_range', List.range_eq_range']
  rw [show i :: List.range' (i + 1) (N - i - 1) = List.range' i (N - i) from by rw [show N - i = (N - i - 1) + 1 from by omega, List.range'_succ]; simp]
  have := List.range'_append (s := 0) (m := i) (n := N - i) (step := 1)
  simp only [Nat.one_mul, Nat.zero_add] at this
  rw [this]
  congr 1
  omega
theorem stage_at (hi : i < N) : (List.range N).filter (stg d i) = (List.range i).filter (fun j => !d j) ++ i :: List.range' (i + 1) (N - i - 1) := by
  rw [range_split hi, List.filter_append, List.filter_cons, stg_ge (Nat.le_refl i), if_pos rfl]
  congr 1
  · refine List.filter_congr fun j hj => stg_lt (List.mem_range.mp hj)
  · congr 1
    refine List.filter_eq_self.mpr fun j hj => stg_ge ?_
    have := List.mem_range'_1.mp hj
    omega
theorem stage_next (hi : i < N) (h : d i = true) : (List.range N).filter (stg d (i + 1)) = (List.range i).filter (fun j => !d j) ++ List.range' (i + 1) (N - i - 1) := by
  rw [range_split hi, List.filter_append, List.filter_cons, stg_lt (Nat.lt_succ_self i), h, if_neg (by decide)]
  congr 1
  · refine List.filter_congr fun j hj => ?_
    have := List.mem_range.mp hj
    exact stg_lt (by omega)
  · refine List.filter_eq_self.mpr fun j hj => stg_ge ?_
    have := List.mem_range'_1.mp hj
    omega
theorem stage_end : (List.range N).filter (stg d N) = (List.range N).filter fun j => !d j :=
  List.filter_congr fun j hj => stg_lt (List.mem_range.mp hj)

/-- the first of the list is the dropped one -/
theorem lst_drop {α : Type} {l : List (α × Nat)} {m : Nat → Bool} (hl : l.map (·.2) = (List.range N).filter m) (hi : i < N) (hm : m i = true) (hk : ∀ k, k < i → m k = false) (h : d i = true) :
    ∃ t r, l = (t, i) :: r ∧ l.filter (fun p => stg d i p.2) = (t, i) :: r ∧ l.filter (fun p => stg d (i + 1) p.2) = r := by
  have e : (List.range N).filter m = i :: (List.range' (i + 1) (N - i - 1)).filter m := by
    rw [range_split hi, List.filter_append, List.filter_cons, hm, if_pos rfl]
    have : (List.range i).filter m = [] := List.filter_eq_nil_iff.mpr fun j hj => by rw [hk j (List.mem_range.mp hj)]; decide
    rw [this]; rfl
  rw [e] at hl
  cases l with
  | nil => cases hl
  | cons p r =>
    obtain ⟨t, j⟩ := p
    rw [List.map_cons] at hl
    injection hl with h1 h2
    have h1 : j = i := h1
    subst h1
    have hr : ∀ p ∈ r, j + 1 ≤ p.2 := fun p hp => by
      have : p.2 ∈ (List.range' (j + 1) (N - j - 1)).filter m := h2 ▸ List.mem_map_of_mem hp
      have := List.mem_range'_1.mp (List.mem_filter.mp this).1
      omega
    refine ⟨t, r, rfl, ?_, ?_⟩
    · rw [List.filter_cons, stg_ge (Nat.le_refl j), if_pos rfl]
      congr 1
      exact List.filter_eq_self.mpr fun p hp => stg_ge (by have := hr p hp; omega)
    · rw [List.filter_cons, stg_lt (Nat.lt_succ_self j), h, if_neg (by decide)]
      exact List.filter_eq_self.mpr fun p hp => stg_ge (hr p hp)
theorem lst_other {α : Type} {l : List (α × Nat)} {m : Nat → Bool} (hl : l.map (·.2) = (List.range N).filter m) (hm : m i = false) : l.filter (fun p => stg d (i + 1) p.2) = l.filter (fun p => stg d i p.2) :=
  List.filter_congr fun p hp => stg_ne (by
    rintro e
    have : p.2 ∈ (List.range N).filter m := hl ▸ List.mem_map_of_mem hp
    rw [e] at this
    have := (List.mem_filter.mp this).2
    rw [hm] at this; cases this)
end

theorem fi_reset {w : World} : findIn (Kf w) (.ref 264) "resetState" = some (some (.ref 240)) := by kernel_rfl
theorem ty_reset {w : World} : typeIn (Kf w) (.ref 240) = some (.type "function") := by kernel_rfl
theorem kp_reset {w : World} : keepIn (Kf w) (.ref 240) = true := by kernel_rfl
theorem gh_371 {w : World} : findIn (Kf w) (.ref 371) "__getattr__" = some none := by kernel_rfl
theorem gh_399 {w : World} : findIn (Kf w) (.ref 399) "__getattr__" = some none := by kernel_rfl
theorem fi_pre371 {w : World} : findIn (Kf w) (.ref 371) "preProcess" = some (some (.ref 360)) := by kernel_rfl
theorem fi_pre399 {w : World} : findIn (Kf w) (.ref 399) "preProcess" = some (some (.ref 297)) := by kernel_rfl
theorem ty_360 {w : World} : typeIn (Kf w) (.ref 360) = some (.type "function") := by kernel_rfl
theorem ty_297 {w : World} : typeIn (Kf w) (.ref 297) = some (.type "function") := by kernel_rfl
theorem kp_360 {w : World} : keepIn (Kf w) (.ref 360) = true := by kernel_rfl
theorem kp_297 {w : World} : keepIn (Kf w) (.ref 297) = true := by kernel_rfl
section
variable {w : World} {A : Around} {s : Shared}
theorem m_pre371 {x dx : Addr} {ms : Int} {pl : Sem Bool} {Q : Value × List Value → Shared → Prop} (T : Stat w s.heap) (gx : s.heap.get? x = some (instObj 371 dx)) (gd : Has s.heap dx (MsD w ms)) (h : Q (.ref 360, [.ref x]) s) :
    WA w A (getMethod (.ref x) "preProcess" pl) Q s := by
  obtain ⟨od, hd, q, t, rfl⟩ := gd
  exact r_getMethod T gx ga_ms rfl gh_371 fi_pre371 ty_360 (.inl rfl) (.inr ⟨dx, _, rfl, hd, by kernel_rfl⟩) h
theorem m_pre399 {x dx st : Addr} {nn : Int} {pl : Sem Bool} {Q : Value × List Value → Shared → Prop} (T : Stat w s.heap) (gx : s.heap.get? x = some (instObj 399 dx)) (gd : Has s.heap dx (SisD w st nn)) (h : Q (.ref 297, [.ref x]) s) :
    WA w A (getMethod (.ref x) "preProcess" pl) Q s := by
  obtain ⟨od, hd, q, t, rfl⟩ := gd
  exact r_getMethod T gx ga_sis rfl gh_399 fi_pre399 ty_297 (.inl rfl) (.inr ⟨dx, _, rfl, hd, by kernel_rfl⟩) h
end
section
variable {w : World} {A : Around} {s : Shared} {D : Nat → DA} {n : Nat} {Z : DSt} {E : Sto Lab} {c : Cx} {P : List (Addr × (Obj → Prop))} {m cm : Loc}
theorem reset_in {x : Nat} {Q : Value → Shared → Prop} (hA : Ok A 3) (X : St c P m cm (cS D n Z E) s) (hx : x < n) (B : DomB w c.g D n) (T : Stat w c.g) (hZ : Zp n Z)
    (h : ∀ s' Z', Zp n Z' → St c P m cm (cS D n Z' E) s' → Q .none s') : WA w A (call (.ref 240) [.ref (D x).d]) Q s := by
  obtain ⟨g, g1, T', L, hdd, _, back⟩ := dom_lend (fun _ => true) X hx B T
  obtain ⟨vs, iv, hd⟩ := (one_0 L rfl).1.ints
  obtain ⟨us, iu, hh⟩ := (one_1 L rfl).1.ints
  obtain ⟨ws, iw, hw⟩ := (one_2 L rfl).1.ints
  obtain ⟨z1, z2, z3⟩ := hZ x hx
  have e1 := ints_length iv
  rw [hZ.len hx] at e1
  rw [z2] at iu
  rw [z3] at iw
  cases iu
  cases iw
  refine resetState_spec hA g1 T' hd (one_0 L rfl).2 hdd hh (one_1 L rfl).2 hw (one_2 L rfl).2 (dom_apart X hx).1 (dom_apart X hx).2.1 (dom_apart X hx).2.2 (by omega) (by simp) fun s' c1 a b d => h s' _ ?_ (back s' _ _ _ c1 (a.ofInts iv) (b.ofInts .nil) (d.ofInts .nil))
  intro y hy
  by_cases e : y = x
  · subst e; simp [setX]; exact z1
  · simp only [setX, if_neg e]; exact hZ y hy
end
end Mine
end

section
open PySem PySem.W PySem.Calls PyProof.Rows
namespace Mine

/-- a constraint as the problem holds it -/
structure PreC where
  ta : Addr
  obj : Addr
  vv : Option Addr
  vars : List Nat
  row : Bool
  sat : (Nat → Int) → Prop
def vvV : Option Addr → Value
  | none => .none
  | some a => .ref a
def PreC.va (p : PreC) (al : Addr) : Addr := p.vv.getD al
def PreC.con (p : PreC) (al : Addr) : Con := ⟨p.obj, p.va al, p.vars, p.sat⟩
structure PreOk (w : World) (g : Heap) (n : Nat) (p : PreC) : Prop where
  tup : Has g p.ta (TupI [.ref p.obj, vvV p.vv])
  vs : ∀ a, p.vv = some a → Has g a (LstN (natsV p.vars))
  all : p.vv = none → p.vars = List.range n
  lt : ∀ x ∈ p.vars, x < n
  ne : p.vars ≠ []
  nd : p.vars.Nodup
  len : p.vars.length ≤ 100
  cls : (p.row = true ∧ ∃ dx, g.get? p.obj = some (instObj 371 dx) ∧ Has g dx (MsD w 1) ∧ p.sat = fun σ => sumBy σ p.vars ≤ 1) ∨
    (p.row = false ∧ p.vars.length ≠ 1 ∧ ∃ dx st sv nn, g.get? p.obj = some (instObj 399 dx) ∧ Has g dx (SisD w st nn) ∧ Has g st (LstN sv) ∧ p.sat = fun σ => nn ≤ sumBy (ind sv σ) p.vars)
theorem PreOk.mono {w : World} {g h : Heap} {n : Nat} {p : PreC} (K : PreOk w g n p) (k : Sub g h) : PreOk w h n p :=
  ⟨K.tup.mono k, fun a e => (K.vs a e).mono k, K.all, K.lt, K.ne, K.nd, K.len, by
    rcases K.cls with ⟨a, dx, b, d, e⟩ | ⟨a, b, dx, st, sv, nn, d, e, f, i⟩
    · exact .inl ⟨a, dx, k.get _ _ b, d.mono k, e⟩
    · exact .inr ⟨a, b, dx, st, sv, nn, k.get _ _ d, e.mono k, f.mono k, i⟩⟩
theorem PreOk.con {w : World} {g g' : Heap} {n : Nat} {p : PreC} {D : Nat → DA} {al : Addr} (K : PreOk w g n p) (k : Sub g g') (hv : Has g' (p.va al) (LstN (natsV p.vars))) : ConOk w g' D n (p.con al) := by
  rcases K.cls with ⟨a, dx, b, d, e⟩ | ⟨a, b, dx, st, sv, nn, d, e, f, i⟩
  · have := maxsum_ok (D := D) (k.get _ _ b) (d.mono k) hv K.lt K.len
    unfold PreC.con
    rw [e]; exact this
  · have := someset_ok (D := D) (k.get _ _ d) (e.mono k) (f.mono k) hv K.lt K.len
    unfold PreC.con
    rw [i]; exact this
theorem PreOk.va {w : World} {g g' : Heap} {n : Nat} {p : PreC} {al : Addr} (K : PreOk w g n p) (k : Sub g g') (hal : Has g' al (LstN (natsV (List.range n)))) : Has g' (p.va al) (LstN (natsV p.vars)) := by
  unfold PreC.va
  cases e : p.vv with
  | none => rw [K.all e]; exact hal
  | some a => exact (K.vs a e).mono k
structure PreL (w : World) (g : Heap) (n N : Nat) (pr : Nat → PreC) : Prop where
  ok : ∀ i, i < N → PreOk w g n (pr i)
  len : N ≤ 100
  sing : ∀ j k, k < j → j < N → (pr j).row = true → (pr k).row = true ∧ (pr k).obj ≠ (pr j).obj ∧ ∀ x ∈ (pr j).vars, x ∉ (pr k).vars
theorem PreL.mono {w : World} {g h : Heap} {n N : Nat} {pr : Nat → PreC} (K : PreL w g n N pr) (k : Sub g h) : PreL w h n N pr := ⟨fun i hi => (K.ok i hi).mono k, K.len, K.sing⟩
/-- a row of one road: preProcess drops it -/
def dropd (pr : Nat → PreC) (j : Nat) : Bool := (pr j).row && (pr j).vars.length == 1
/-- what the solver gets -/
def csOf (pr : Nat → PreC) (N : Nat) (al : Addr) : List Con := ((List.range N).filter fun j => !dropd pr j).map fun j => (pr j).con al

-- the ledger, phase by phase
def e12 (c2 : Addr) (xs : List Value) : Sto Lab := fun l => if l = (12, 0) then some (c2, LstI xs) else none
def e13 (pr : Nat → PreC) (al : Addr) (tl : Nat → Addr) (c2 : Addr) (i : Nat) : Sto Lab := fun l =>
  if l = (12, 0) then some (c2, LstI ((List.range i).map fun j => Value.ref (tl j))) else if l.1 = 13 ∧ l.2 < i then some (tl l.2, TupI [.ref (pr l.2).obj, .ref ((pr l.2).va al)]) else none

/-- the lists of the variables, empty so far -/
def e15 (w : World) (c2 : Addr) (xs : List Value) (vc : Addr) (vl : Nat → Addr) (k : Nat) : Sto Lab := fun l =>
  if l = (12, 0) then some (c2, LstI xs) else if l = (14, 0) then some (vc, DicK w ((List.range k).map fun (i : Nat) => ((i : Int), Value.ref (vl i)))) else if l.1 = 15 ∧ l.2 < k then some (vl l.2, LstI []) else none
def eL (c2 : Addr) (xs : List Value) (vl : Nat → Addr) (n : Nat) (ls : Nat → List (Addr × Nat)) : Sto Lab := fun l =>
  if l = (12, 0) then some (c2, LstI xs) else if l.1 = 15 ∧ l.2 < n then some (vl l.2, LstI ((ls l.2).map fun p => Value.ref p.1)) else none
/-- with the tuples of the lists -/
def eT (pr : Nat → PreC) (al : Addr) (c2 : Addr) (xs : List Value) (vl : Nat → Addr) (n : Nat) (ls vt : Nat → List (Addr × Nat)) : Sto Lab := fun l =>
  if l.1 < 16 then eL c2 xs vl n ls l else ((vt (l.1 - 16))[l.2]?).map fun p => (p.1, TupI [.ref (pr p.2).obj, .ref ((pr p.2).va al)])

def c2f (pr : Nat → PreC) (tl : Nat → Addr) (N i : Nat) : List Value := ((List.range N).filter (stg (dropd pr) i)).map fun j => Value.ref (tl j)
def lsf (pr : Nat → PreC) (vt : Nat → List (Addr × Nat)) (i x : Nat) : List (Addr × Nat) := (vt x).filter fun p => stg (dropd pr) i p.2
theorem over_pre {D : Nat → DA} {n : Nat} {Z Z' : DSt} {X : Sto Lab} {c2 : Addr} {xs xs' ys ys' : List Value} {y : Nat} {vl : Nat → Addr} {ls ls' : Nat → List (Addr × Nat)} (hy : y < n) (h1 : ys' = (ls' y).map fun p => Value.ref p.1) (h2 : ∀ z, z < n → z ≠ y → ls' z = ls z) :
    ∀ l p, cS D n Z' (addE (eL c2 xs' vl n ls') X) l = some p → over2 (cS D n Z (cpE c2 xs y (vl y) ys)) (cS D n Z' (cpE c2 xs' y (vl y) ys')) (cS D n Z (addE (eL c2 xs vl n ls) X)) l = some p := by
  intro l p e
  unfold cS at e
  by_cases q : l.1 < 3
  · rw [if_pos q] at e
    refine over2_new ?_
    unfold cS; rw [if_pos q]; exact e
  · rw [if_neg q] at e
    unfold addE at e
    by_cases q2 : l.1 < 30
    · rw [if_pos q2] at e
      unfold eL at e
      by_cases q3 : l = (12, 0)
      · rw [if_pos q3] at e
        refine over2_new ?_
        unfold cS cpE; rw [if_neg q, if_pos q3]; exact e
      · rw [if_neg q3] at e
        by_cases q4 : l.1 = 15 ∧ l.2 < n
        · rw [if_pos q4] at e
          by_cases q5 : l = (15, y)
          · refine over2_new ?_
            unfold cS cpE; rw [if_neg q, if_neg q3, if_pos q5, h1]
            rw [q5] at e; exact e
          · have hne : l.2 ≠ y := fun z => q5 (by obtain ⟨a, b⟩ := l; obtain ⟨q4, _⟩ := q4; dsimp only at q4 z; rw [q4, z])
            refine over2_old ?_ ?_ ?_
            · unfold cS cpE; rw [if_neg q, if_neg q3, if_neg q5]
            · unfold cS cpE; rw [if_neg q, if_neg q3, if_neg q5]
            · unfold cS addE eL; rw [if_neg q, if_pos q2, if_neg q3, if_pos q4, ← h2 _ q4.2 hne]; exact e
        · rw [if_neg q4] at e; cases e
    · rw [if_neg q2] at e
      have q3 : l ≠ (12, 0) := by rintro rfl; exact q2 (by decide)
      have q5 : l ≠ (15, y) := by rintro rfl; exact q2 (by show 15 < 30; decide)
      refine over2_old ?_ ?_ ?_
      · unfold cS cpE; rw [if_neg q, if_neg q3, if_neg q5]
      · unfold cS cpE; rw [if_neg q, if_neg q3, if_neg q5]
      · unfold cS addE; rw [if_neg q, if_neg q2]; exact e
theorem pre_sub {D : Nat → DA} {n : Nat} {Z : DSt} {X : Sto Lab} {c2 : Addr} {xs : List Value} {y : Nat} {vl : Nat → Addr} {ls : Nat → List (Addr × Nat)} (hy : y < n) :
    ∀ l p, cS D n Z (cpE c2 xs y (vl y) ((ls y).map fun p => Value.ref p.1)) l = some p → cS D n Z (addE (eL c2 xs vl n ls) X) l = some p := by
  intro l p e
  unfold cS at e ⊢
  by_cases q : l.1 < 3
  · rw [if_pos q] at e ⊢; exact e
  · rw [if_neg q] at e ⊢
    unfold cpE at e
    by_cases q1 : l = (12, 0)
    · subst q1; exact e
    · rw [if_neg q1] at e
      by_cases q2 : l = (15, y)
      · subst q2
        rw [if_pos rfl] at e
        unfold addE eL
        rw [if_pos (by show 15 < 30; decide), if_neg q1, if_pos ⟨rfl, hy⟩]; exact e
      · rw [if_neg q2] at e; cases e

theorem lk_args {w : World} (q : Nat × Nat × Nat × Nat) (slv cl vd : Addr) : lookIn "_getArgs" (dictOf [attrE w "_solver" q.1 (.ref slv), attrE w "_constraints" q.2.1 (.ref cl), attrE w "_variables" q.2.2.1 (.ref vd)] q.2.2.2) = some none := by kernel_rfl

section
variable {w : World} {A : Around} {s0 : Shared} {g : Heap} {D : Nat → DA} {n N : Nat} {pr : Nat → PreC} {X : Sto Lab}
theorem getArgs_spec {pb pd slv cl vd : Addr} {Q : Value → Shared → Prop} (hA : Ok A 20) (hg : Sub g s0.heap) (T : Stat w g) (gp : g.get? pb = some (instObj 110 pd)) (gpd : Has g pd (ProbD w slv cl vd))
    (hvd : (vd == sysModules) = false) (gvd : Has g vd (DicK w (domKv D n))) (B : DomB w g D n) (n3 : 3 ≤ n) (n6 : n ≤ 6) (hP : PreL w g n N pr) (gcl : Has g cl (LstI ((List.range N).map fun j => Value.ref (pr j).ta)))
    (L : Led g s0.heap (cS D n Z0 (addE noS2 X)))
    (h : ∀ s' g' Z dm vc c2 al vl vcs t, Sub g g' → Chg g' s0 s' → SolvIn w g' D n (csOf pr N al) dm vc vl vcs → Zp n Z → Led g' s'.heap (cS D n Z (addE noS2 X)) → Has g' t (TupI [.ref dm, .ref c2, .ref vc]) → Q (.ref t) s') :
    codeAny (model Pr w) A (.call (.ref 107) ⟨[.ref pb], []⟩) (Rv Q) s0 := by
  obtain ⟨_, gpd, q, rfl⟩ := gpd
  have kvl : (domKv D n).length = n := domKv_len
  refine r_enterC (binds := [("self", .ref pb)]) (by exact rfl) hA.room hg T (by kernel_rfl) (BindsTo.of_eq rfl) (by rfl) L fun Lc s₂ S => ?_
  -- domains = self._variables.copy()
  refine r_assign (r_callMeth (r_attr (r_local S rfl (attr_plain (S.stat T) (S.base gp) (S.base gpd) ga_prob (fo_vars q slv cl vd) rfl fun s' g' => ?_))))
  have S := S.grow g'
  refine m_dict bmDict_copy (S.stat T) (S.baseH gvd) (r_cw0 (keeps_builtin _ _) (d_copy (S.stat T) hvd (S.baseH gvd) (by omega) fun dm s' g' hdm hdf sysD => ?_))
  have S := S.newA (E' := fun l => if l = (10, 0) then some (dm, DicK w (domKv D n)) else none) g' (10, 0) hdm hdf (fun l' q e => by
    by_cases q : l' = (10, 0)
    · rw [if_pos q] at e; cases e; exact .inl ⟨q, rfl⟩
    · rw [if_neg q] at e; cases e)
  refine r_store S fun s' S => ?_
  -- allvariables = list(domains)
  refine r_assign (r_callName (r_built (S.stat T) nb_list bt_list (r_cw (args_cons (r_local S rfl (args_nil ⟨keeps_type _ _, b_listDict (A := A.deeper _) hA.hd sysD (S.atA (l := (10, 0)) rfl) (by omega) fun al s' g' hal haf => ?_⟩))))))
  have ek : (domKv D n).map (·.1) = natsV (List.range n) := by simp [domKv, natsV]
  rw [ek] at hal
  have S := S.newA (E' := fun l => if l = (10, 0) then some (dm, DicK w (domKv D n)) else if l = (11, 0) then some (al, LstN (natsV (List.range n))) else none) g' (11, 0) hal haf (fun l' q e => by
    by_cases q : l' = (10, 0)
    · rw [if_pos q] at e; exact .inr ⟨by rw [q]; decide, by rw [if_pos q]; exact e⟩
    · rw [if_neg q] at e
      by_cases q1 : l' = (11, 0)
      · rw [if_pos q1] at e; cases e; exact .inl ⟨q1, rfl⟩
      · rw [if_neg q1] at e; cases e)
  refine r_store S fun s' S => ?_
  obtain ⟨g1, k1, S, F1⟩ := S.freezeA noS2 (fun l p e => by cases e)
  have gdm := F1 (10, 0) _ _ (by decide) (by decide) rfl rfl
  have gal := F1 (11, 0) _ _ (by decide) (by decide) rfl rfl
  have T1 := T.mono k1.get
  have P1 := hP.mono k1
  -- constraints = []
  refine r_assign (r_list (args_nil ⟨by simp, fun c2 s' g' hc2 hcf => ?_⟩))
  have S := S.newA (E' := e13 pr al (fun _ => 0) c2 0) g' (12, 0) hc2 hcf (fun l' q e => by
    unfold e13 at e
    by_cases q : l' = (12, 0)
    · rw [if_pos q] at e; cases e; exact .inl ⟨q, rfl⟩
    · rw [if_neg q, if_neg (by omega)] at e; cases e)
  refine r_store S fun s' S => ?_
  -- for constraint, variables in self._constraints
  refine r_for (r_attr (r_local S rfl (attr_plain (S.stat T1) (S.base (k1.get _ _ gp)) (S.base (k1.get _ _ gpd)) ga_prob (fo_cons q slv cl vd) rfl fun s' g' => ?_)))
  have S := S.grow g'
  have gcl1 := gcl.mono k1
  refine .mk (fun i m cm S => ∃ tl, m = lo [("constraints", .ref c2), ("allvariables", .ref al), ("domains", .ref dm), ("self", .ref pb)] ∧ cm = [] ∧ S = cS D n Z0 (addE (e13 pr al tl c2 i) X))
    (itb_list hA.hd (S.baseH gcl1)) ⟨_, _, _, ⟨_, rfl, rfl, rfl⟩, S.fit⟩ (fun i P' m cm S s hi Y => Y.baseH gcl1) (fun i I ψ m cm S s v hi hv hval S => ?_) fun m cm S s hv S => ?_
  · obtain ⟨tl, rfl, rfl, rfl⟩ := hv
    obtain ⟨j, hj, rfl⟩ := map_get hval
    have hjl := (List.getElem?_eq_some_iff.mp hj).1
    rw [List.length_range] at hjl
    have hji : i = j := by
      obtain ⟨_, e⟩ := List.getElem?_eq_some_iff.mp hj
      rw [List.getElem_range] at e; exact e
    subst hji
    have K := P1.ok i hjl
    refine a_tup hA.hd (S.baseH K.tup) fun s2 g2 => ?_
    have S := S.grow g2
    refine ao_cons (a_name (r_store S fun s3 S => ao_cons (a_name (r_store S fun s4 S => ao_nil ?_))))
    refine r_ifJ (fun s => St ⟨g1, Lc, [], s0⟩ ([] ++ [(I, ψ)]) (lo [("variables", .ref ((pr i).va al)), ("constraint", .ref (pr i).obj), ("constraints", .ref c2), ("allvariables", .ref al), ("domains", .ref dm), ("self", .ref pb)]) [] (cS D n Z0 (addE (e13 pr al tl c2 i) X)) s) (t_not (t_name (r_local S rfl ?_))) fun s S => ?_
    · cases hvv : (pr i).vv with
      | none =>
        refine tr_none ?_
        rw [if_pos (by decide)]
        rw [hvv] at S
        refine r_assign (r_local S rfl (r_store S fun s' S => r_nil ?_))
        have : (pr i).va al = al := by unfold PreC.va; rw [hvv]; rfl
        rw [this]
        exact S.fit
      | some a =>
        rw [hvv] at S
        refine truthN (S.stat T1) bmL__len__ nobool_list (S.baseH (K.vs a hvv)) (by have := K.len; simp; omega) fun s' g' => ?_
        have S := S.grow g'
        rw [if_neg (by have := K.ne; simpa using this)]
        refine r_nil ?_
        have : (pr i).va al = a := by unfold PreC.va; rw [hvv]; rfl
        rw [this]
        exact S.fit
    refine r_expr (r_callMeth (r_local S rfl (m_list bmL_append (S.stat T1) (S.atA (l := (12, 0)) rfl) ?_)))
    refine r_cw (args_cons (r_tuple (args_cons (r_local S rfl (args_cons (r_local S rfl (args_nil ⟨by simp, fun ta s' g' hta htf => args_nil ⟨keeps_builtin _ _, ?_⟩⟩)))))))
    have S := S.newA (E' := fun l => if l = (12, 0) then some (c2, LstI ((List.range i).map fun j => Value.ref (tl j))) else if l.1 = 13 ∧ l.2 < i + 1 then some (if l.2 = i then ta else tl l.2, TupI [.ref (pr l.2).obj, .ref ((pr l.2).va al)]) else none) g' (13, i) hta htf (fun l' q e => by
      by_cases q : l' = (12, 0)
      · rw [if_pos q] at e; cases e
        exact .inr ⟨(by rw [q]; intro z; cases z), by unfold e13; rw [if_pos q]⟩
      · rw [if_neg q] at e
        by_cases q1 : l'.1 = 13 ∧ l'.2 < i + 1
        · rw [if_pos q1] at e; cases e
          by_cases q2 : l'.2 = i
          · left
            obtain ⟨a, b⟩ := l'
            obtain ⟨q1, _⟩ := q1
            dsimp only at q1 q2
            subst q1 q2
            exact ⟨rfl, by rw [if_pos rfl]⟩
          · right
            refine ⟨fun z => q2 (by rw [z]), ?_⟩
            unfold e13
            rw [if_neg q, if_pos ⟨q1.1, by omega⟩, if_neg q2]
        · rw [if_neg q1] at e; cases e) (by show 3 ≤ 13; decide) (by show 13 < 30; decide)
    refine b_append (S.stat T1) (S.atA (l := (12, 0)) rfl) (by have := hP.len; simp; omega) fun h' h1 h2 => ?_
    have S := S.putA (E' := e13 pr al (fun j => if j = i then ta else tl j) c2 (i + 1)) (12, 0) (t := s'.toks) rfl h1 h2 (fun l' q e => by
      unfold e13 at e
      by_cases q : l' = (12, 0)
      · rw [if_pos q] at e; cases e
        refine .inl ⟨q, ?_⟩
        rw [List.range_succ, List.map_append]
        congr 3
        · refine List.map_congr_left fun x hx => ?_
          have := List.mem_range.mp hx
          show Value.ref (if x = i then ta else tl x) = Value.ref (tl x)
          rw [if_neg (by omega)]
        · simp
      · rw [if_neg q] at e
        refine .inr ⟨q, ?_⟩
        rw [if_neg q]; exact e)
    exact r_nil ⟨_, _, _, ⟨_, rfl, rfl, rfl⟩, S.fit⟩
  obtain ⟨tl, rfl, rfl, rfl⟩ := hv
  rw [List.length_map, List.length_range] at S
  refine r_nil (k_next ?_)
  obtain ⟨C, hC⟩ : ∃ C, C = (List.range N).map fun j => Value.ref (tl j) := ⟨_, rfl⟩
  have hCl : C.length = N := by rw [hC]; simp
  rw [show e13 pr al tl c2 N = fun l => if l = (12, 0) then some (c2, LstI C) else if l.1 = 13 ∧ l.2 < N then some (tl l.2, TupI [.ref (pr l.2).obj, .ref ((pr l.2).va al)]) else none from by rw [hC]; rfl] at S
  obtain ⟨g2, k2, S, F2⟩ := S.freezeA (e12 c2 C) (fun l p e => by
    unfold e12 at e
    by_cases q : l = (12, 0)
    · rw [if_pos q] at e; rw [if_pos q]; exact e
    · rw [if_neg q] at e; cases e)
  have T2 := T1.mono k2.get
  have gtl : ∀ j, j < N → Has g2 (tl j) (TupI [.ref (pr j).obj, .ref ((pr j).va al)]) := fun j hj => F2 (13, j) _ _ (by show 3 ≤ 13; decide) (by show 13 < 30; decide) (by rw [if_neg (by intro z; cases z), if_pos ⟨rfl, hj⟩]) (by unfold e12; rw [if_neg (by intro z; cases z)])
  have k12 := k1.trans k2
  obtain ⟨ep, gdmI⟩ := (gdm.mono k2).ep
  -- vconstraints = {}
  refine r_assign (d_empty (S.stat T2) fun vc s' g' hvc hvf sysV => ?_)
  have S := S.newA (E' := e15 w c2 C vc (fun _ => 0) 0) g' (14, 0) hvc hvf (fun l' q e => by
    unfold e15 at e
    by_cases q : l' = (12, 0)
    · rw [if_pos q] at e; cases e
      exact .inr ⟨(by rw [q]; intro z; cases z), by unfold e12; rw [if_pos q]⟩
    · rw [if_neg q] at e
      by_cases q1 : l' = (14, 0)
      · rw [if_pos q1] at e; cases e; exact .inl ⟨q1, rfl⟩
      · rw [if_neg q1, if_neg (by omega)] at e; cases e)
  refine r_store S fun s' S => ?_
  -- for variable in domains: vconstraints[variable] = []
  refine r_for (r_local S rfl (.mk (fun i m cm S => ∃ vl, m = lo [("vconstraints", .ref vc), ("constraints", .ref c2), ("domains", .ref dm), ("self", .ref pb)] ∧ cm = [] ∧ S = cS D n Z0 (addE (e15 w c2 C vc vl i) X))
    (itb_keys sysD hA.hd (S.baseH gdmI)) ⟨_, _, _, ⟨_, rfl, rfl, rfl⟩, S.fit⟩ (fun i P' m cm S s hi Y => Y.baseH gdmI) (fun i I ψ m cm S s v hi hv hval S => ?_) fun m cm S s hv S => ?_))
  · obtain ⟨vl, rfl, rfl, rfl⟩ := hv
    obtain ⟨k, u, t, hk, rfl⟩ := hval
    obtain ⟨hin, rfl⟩ := domKv_get hk
    refine a_name (r_store S fun s S => ?_)
    refine r_assignSub (r_list (args_nil ⟨by simp, fun l s' g' hl hf => ?_⟩))
    have S := S.newA (E' := fun l' => if l' = (12, 0) then some (c2, LstI C) else if l' = (14, 0) then some (vc, DicK w ((List.range i).map fun (i : Nat) => ((i : Int), Value.ref (vl i)))) else if l'.1 = 15 ∧ l'.2 < i + 1 then some (if l'.2 = i then l else vl l'.2, LstI []) else none) g' (15, i) hl hf (fun l' q e => by
      by_cases q : l' = (12, 0)
      · rw [if_pos q] at e; cases e
        exact .inr ⟨(by rw [q]; intro z; cases z), by unfold e15; rw [if_pos q]⟩
      · rw [if_neg q] at e
        by_cases q1 : l' = (14, 0)
        · rw [if_pos q1] at e; cases e
          exact .inr ⟨(by rw [q1]; intro z; cases z), by unfold e15; rw [if_neg q, if_pos q1]⟩
        · rw [if_neg q1] at e
          by_cases q2 : l'.1 = 15 ∧ l'.2 < i + 1
          · rw [if_pos q2] at e; cases e
            by_cases q3 : l'.2 = i
            · left
              obtain ⟨a, b⟩ := l'
              obtain ⟨q2, _⟩ := q2
              dsimp only at q2 q3
              subst q2 q3
              exact ⟨rfl, by rw [if_pos rfl]⟩
            · right
              refine ⟨fun z => q3 (by rw [z]), ?_⟩
              unfold e15
              rw [if_neg q, if_neg q1, if_pos ⟨q2.1, by omega⟩, if_neg q3]
          · rw [if_neg q2] at e; cases e) (by show 3 ≤ 15; decide) (by show 15 < 30; decide)
    refine r_local S rfl (r_local S rfl (d_set (S.atA (l := (14, 0)) rfl) (by simp; omega) fun h' tk h1 h2 => ?_))
    have hnone : valueAt ((List.range i).map fun (i : Nat) => ((i : Int), Value.ref (vl i))) (i : Int) = none := domKv_none (D := fun i => ⟨vl i, 0, 0, 0⟩) (Nat.le_refl i)
    rw [stored_none hnone] at h1
    have S := S.putA (E' := e15 w c2 C vc (fun y => if y = i then l else vl y) (i + 1)) (14, 0) (t := tk) rfl h1 h2 (fun l' q e => by
      unfold e15 at e
      by_cases q : l' = (12, 0)
      · rw [if_pos q] at e; cases e
        refine .inr ⟨(by rw [q]; intro z; cases z), ?_⟩
        rw [if_pos q]
      · rw [if_neg q] at e
        by_cases q1 : l' = (14, 0)
        · rw [if_pos q1] at e; cases e
          refine .inl ⟨q1, ?_⟩
          rw [List.range_succ, List.map_append]
          congr 3
          · refine List.map_congr_left fun x hx => ?_
            have := List.mem_range.mp hx
            show ((x : Int), Value.ref (if x = i then l else vl x)) = ((x : Int), Value.ref (vl x))
            rw [if_neg (by omega)]
          · simp
        · rw [if_neg q1] at e
          refine .inr ⟨q1, ?_⟩
          rw [if_neg q, if_neg q1]; exact e)
    exact r_nil ⟨_, _, _, ⟨_, rfl, rfl, rfl⟩, S.fit⟩
  obtain ⟨vl, rfl, rfl, rfl⟩ := hv
  rw [kvl] at S
  refine r_nil (k_next ?_)
  obtain ⟨g3, k3, S, F3⟩ := S.freezeA (eT pr al c2 C vl n (fun _ => []) (fun _ => [])) (fun l p e => by
    unfold eT eL at e
    unfold e15
    by_cases q0 : l.1 < 16
    · rw [if_pos q0] at e
      by_cases q : l = (12, 0)
      · rw [if_pos q] at e ⊢; exact e
      · rw [if_neg q] at e ⊢
        by_cases q1 : l.1 = 15 ∧ l.2 < n
        · rw [if_pos q1] at e
          rw [if_neg (by intro z; rw [z] at q1; exact absurd q1.1 (by decide)), if_pos q1]; exact e
        · rw [if_neg q1] at e; cases e
    · rw [if_neg q0] at e; cases e)
  have T3 := T2.mono k3.get
  have gvc := F3 (14, 0) _ _ (by decide) (by decide) rfl rfl
  have P3 := (P1.mono k2).mono k3
  -- for constraint, variables in constraints: for variable in variables: vconstraints[variable].append((constraint, variables))
  refine r_for (r_local S rfl (.mk (fun i m cm S => ∃ vt, (∀ x, x < n → (vt x).map (·.2) = (List.range i).filter fun j => decide (x ∈ (pr j).vars)) ∧
      m = lo [("vconstraints", .ref vc), ("constraints", .ref c2), ("domains", .ref dm), ("self", .ref pb)] ∧ cm = [] ∧ S = cS D n Z0 (addE (eT pr al c2 C vl n vt vt) X))
    (itb_list (xs := C) hA.hd (S.atA (l := (12, 0)) (by rw [hC]; rfl))) ⟨_, _, _, ⟨_, fun x hx => rfl, rfl, rfl, by rw [hC]⟩, S.fit⟩ (fun i P' m cm S s hi Y => ?_) (fun i I ψ m cm S s v hi hv hval S => ?_) fun m cm S s hv S => ?_))
  · obtain ⟨vt, hvt, rfl, rfl, rfl⟩ := hi
    exact Y.atA (l := (12, 0)) rfl
  · obtain ⟨vt, hvt, rfl, rfl, rfl⟩ := hv
    rw [hC] at hval
    obtain ⟨j, hj, rfl⟩ := map_get hval
    have hiN : i < N := by rw [hCl] at hi; exact hi
    have hji : i = j := by
      obtain ⟨_, e⟩ := List.getElem?_eq_some_iff.mp hj
      rw [List.getElem_range] at e; exact e
    subst hji
    have K := P3.ok i hiN
    have gva := K.va (Sub.refl _) ((gal.mono k2).mono k3)
    obtain ⟨us, iu, gva'⟩ := gva.ints
    have lu := ints_length iu
    rw [List.length_map] at lu
    refine a_tup hA.hd (S.baseH ((gtl i hiN).mono k3)) fun s2 g2 => ?_
    have S := S.grow g2
    refine ao_cons (a_name (r_store S fun s3 S => ao_cons (a_name (r_store S fun s4 S => ao_nil ?_))))
    refine r_for (r_local S rfl (.mk (fun k m cm S => ∃ vt', (∀ x, x < n → (vt' x).map (·.2) = ((List.range i).filter fun j => decide (x ∈ (pr j).vars)) ++ if x ∈ (pr i).vars.take k then [i] else []) ∧
        m = lo [("variables", .ref ((pr i).va al)), ("constraint", .ref (pr i).obj), ("vconstraints", .ref vc), ("constraints", .ref c2), ("domains", .ref dm), ("self", .ref pb)] ∧ cm = [] ∧ S = cS D n Z0 (addE (eT pr al c2 C vl n vt' vt') X))
      (itb_list hA.hd (S.baseH gva')) ⟨_, _, _, ⟨vt, fun x hx => by rw [hvt x hx]; simp, rfl, rfl, rfl⟩, S.fit⟩ (fun i P' m cm S s hi Y => Y.baseH gva') (fun k I2 ψ2 m cm S s v hk hv hval S => ?_) fun m cm S s hv S => ?_))
    · obtain ⟨vt', hvt', rfl, rfl, rfl⟩ := hv
      obtain ⟨y, ty, hy, rfl⟩ := vars_get iu hval
      have ym := List.mem_of_getElem? hy
      have yn := K.lt y ym
      have hnot : y ∉ (pr i).vars.take k := (nodup_drop K.nd hy).2
      refine a_name (r_store S fun s S => ?_)
      refine r_expr (r_callMeth (r_sub (r_local S rfl (r_local S rfl ⟨inPyDict (S.baseH gvc), d_get (S.baseH gvc) (kvf_at vl yn) fun s' g' => ?_⟩))))
      have S := S.grow g'
      have e15y : ∀ ls vt, eT pr al c2 C vl n ls vt (15, y) = some (vl y, LstI ((ls y).map fun p => Value.ref p.1)) := fun ls vt => by
        unfold eT eL
        rw [if_pos (by show 15 < 16; decide), if_neg (by intro z; cases z), if_pos ⟨rfl, yn⟩]
      refine m_list bmL_append (S.stat T3) (S.atA (e15y _ _) (by show 3 ≤ 15; decide) (by show 15 < 30; decide)) ?_
      refine r_cw (args_cons (r_tuple (args_cons (r_local S rfl (args_cons (r_local S rfl (args_nil ⟨by simp, fun ta s' g' hta htf => args_nil ⟨keeps_builtin _ _, ?_⟩⟩)))))))
      have S := S.newA (E' := eT pr al c2 C vl n vt' (fun x => if x = y then vt' x ++ [(ta, i)] else vt' x)) g' (16 + y, (vt' y).length) hta htf (fun l' q e => by
        unfold eT at e ⊢
        by_cases q0 : l'.1 < 16
        · rw [if_pos q0] at e ⊢
          exact .inr ⟨(by intro z; rw [z] at q0; have : 16 + y < 16 := q0; omega), e⟩
        · rw [if_neg q0] at e ⊢
          obtain ⟨a, b⟩ := l'
          dsimp only at q0 e ⊢
          by_cases q1 : a - 16 = y
          · rw [if_pos q1] at e
            subst q1
            by_cases q2 : b = (vt' (a - 16)).length
            · subst q2
              rw [List.getElem?_append_right (Nat.le_refl _), Nat.sub_self] at e
              cases e
              exact .inl ⟨by congr 1; omega, rfl⟩
            · refine .inr ⟨fun z => q2 (congrArg Prod.snd z), ?_⟩
              obtain ⟨p, hp, hq⟩ := Option.map_eq_some_iff.mp e
              have hlt : b < (vt' (a - 16)).length := by
                have := (List.getElem?_eq_some_iff.mp hp).1
                rw [List.length_append, List.length_singleton] at this
                omega
              rw [List.getElem?_append_left hlt] at hp
              rw [hp, ← hq]; rfl
          · rw [if_neg q1] at e
            refine .inr ⟨fun z => q1 (by have := congrArg Prod.fst z; have : a = 16 + y := this; omega), e⟩) (by show 3 ≤ 16 + y; omega) (by show 16 + y < 30; omega)
      have lenv : (vt' y).length ≤ 200 := by
        have := congrArg List.length (hvt' y yn)
        rw [List.length_map, if_neg hnot, List.append_nil] at this
        rw [this]
        refine Nat.le_trans (List.length_filter_le _ _) ?_
        have := hP.len
        rw [List.length_range]; omega
      refine b_append (S.stat T3) (S.atA (e15y _ _) (by show 3 ≤ 15; decide) (by show 15 < 30; decide)) (by rw [List.length_map]; omega) fun h' h1 h2 => ?_
      have S := S.putA (E' := eT pr al c2 C vl n (fun x => if x = y then vt' x ++ [(ta, i)] else vt' x) (fun x => if x = y then vt' x ++ [(ta, i)] else vt' x)) (15, y) (t := s'.toks) (e15y _ _) h1 h2 (fun l' q e => by
        unfold eT at e ⊢
        by_cases q0 : l'.1 < 16
        · rw [if_pos q0] at e ⊢
          unfold eL at e ⊢
          by_cases q : l' = (12, 0)
          · rw [if_pos q] at e ⊢
            exact .inr ⟨(by rw [q]; intro z; cases z), e⟩
          · rw [if_neg q] at e ⊢
            by_cases q1 : l'.1 = 15 ∧ l'.2 < n
            · rw [if_pos q1] at e ⊢
              by_cases q2 : l'.2 = y
              · left
                obtain ⟨a, b⟩ := l'
                obtain ⟨q1, _⟩ := q1
                dsimp only at q1 q2
                subst q1 q2
                cases e
                refine ⟨rfl, ?_⟩
                simp
              · right
                dsimp only at e
                rw [if_neg q2] at e
                exact ⟨fun z => q2 (by rw [z]), e⟩
            · rw [if_neg q1] at e; cases e
        · rw [if_neg q0] at e ⊢
          exact .inr ⟨fun z => q0 (by rw [z]; show 15 < 16; decide), e⟩) (by show 3 ≤ 15; decide) (by show 15 < 30; decide)
      refine r_nil ⟨_, _, _, ⟨_, fun x hx => ?_, rfl, rfl, rfl⟩, S.fit⟩
      by_cases hxy : x = y
      · subst hxy
        rw [if_pos rfl, List.map_append, hvt' x hx, if_neg hnot, List.append_nil, take_snoc hy, if_pos (by simp)]
        rfl
      · rw [if_neg hxy, hvt' x hx, take_snoc hy]
        congr 1
        by_cases hm : x ∈ (pr i).vars.take k
        · rw [if_pos hm, if_pos (List.mem_append_left _ hm)]
        · rw [if_neg hm, if_neg (by simp [hm, hxy])]
    · obtain ⟨vt', hvt', rfl, rfl, rfl⟩ := hv
      refine r_nil (k_next (r_nil ⟨_, _, _, ⟨vt', fun x hx => ?_, rfl, rfl, rfl⟩, S.fit⟩))
      rw [hvt' x hx, List.take_of_length_le (by omega), List.range_succ, List.filter_append]
      congr 1
      by_cases hm : x ∈ (pr i).vars
      · rw [if_pos hm]; simp [hm]
      · rw [if_neg hm]; simp [hm]
  obtain ⟨vt, hvt, rfl, rfl, rfl⟩ := hv
  rw [hCl] at hvt
  refine r_nil (k_next ?_)
  obtain ⟨g4, k4, S, F4⟩ := S.freezeA (eL c2 C vl n vt) (fun l p e => by
    unfold eT
    have e0 := e
    unfold eL at e
    by_cases q : l = (12, 0)
    · rw [if_pos (by rw [q]; decide)]; exact e0
    · rw [if_neg q] at e
      by_cases q1 : l.1 = 15 ∧ l.2 < n
      · rw [if_pos (by rw [q1.1]; decide)]; exact e0
      · rw [if_neg q1] at e; cases e)
  have T4 := T3.mono k4.get
  have gvt : ∀ x, x < n → ∀ p ∈ vt x, Has g4 p.1 (TupI [.ref (pr p.2).obj, .ref ((pr p.2).va al)]) := fun x hx p hp => by
    obtain ⟨k, hk⟩ := List.getElem?_of_mem hp
    refine F4 (16 + x, k) _ _ (by show 3 ≤ 16 + x; omega) (by show 16 + x < 30; omega) (by
      unfold eT
      rw [if_neg (by show ¬ 16 + x < 16; omega)]
      show ((vt (16 + x - 16))[k]?).map _ = _
      rw [show 16 + x - 16 = x from by omega, hk]; rfl) (by
      unfold eL
      rw [if_neg (by intro z; have := congrArg Prod.fst z; have : 16 + x = 12 := this; omega), if_neg (by rintro ⟨z, _⟩; have : 16 + x = 15 := z; omega)])
  have P4 := P3.mono k4
  have P4' := P4
  -- for constraint, variables in constraints[:]
  have e0c : c2f pr tl N 0 = C := by
    unfold c2f
    rw [List.filter_eq_self.mpr fun j _ => stg_zero j, hC]
  have e0l : ∀ x, lsf pr vt 0 x = vt x := fun x => List.filter_eq_self.mpr fun p _ => stg_zero _
  refine r_for (r_slice (r_local S rfl (wpAny_pure (wpAny_pure ⟨c2, _, _, C, none, none, rfl, S.stat T4, S.atA (l := (12, 0)) rfl, sk_type (by decide), bmL__getitem__, .none, .none, by have := hP.len; omega, fun cc s' g' hcc hccf => ?_⟩))))
  rw [slicePick_all] at hcc
  have S := S.newA (E' := fun l => if l = (13, 0) then some (cc, LstI C) else eL c2 C vl n vt l) g' (13, 0) hcc hccf (fun l' q e => by
    by_cases q : l' = (13, 0)
    · rw [if_pos q] at e; cases e; exact .inl ⟨q, rfl⟩
    · rw [if_neg q] at e; exact .inr ⟨q, e⟩)
  obtain ⟨g5, k5, S, F5⟩ := S.freezeA (eL c2 C vl n vt) (fun l p e => by
    rw [if_neg (by rintro rfl; unfold eL at e; rw [if_neg (by intro z; cases z), if_neg (by rintro ⟨z, _⟩; cases z)] at e; cases e)]; exact e)
  have gcc := F5 (13, 0) _ _ (by decide) (by decide) rfl (by unfold eL; rw [if_neg (by intro z; cases z), if_neg (by rintro ⟨z, _⟩; cases z)])
  have T5 := T4.mono k5.get
  have P5 := P4.mono k5
  have k15 : Sub g1 g5 := (k2.trans k3).trans (k4.trans k5)
  have k35 : Sub g3 g5 := k4.trans k5
  have B5 : DomB w g5 D n := B.mono (k1.trans k15)
  have gdm5 := gdm.mono k15
  have gal5 := gal.mono k15
  have gvc5 := gvc.mono k35
  have gtl5 : ∀ j, j < N → Has g5 (tl j) (TupI [.ref (pr j).obj, .ref ((pr j).va al)]) := fun j hj => (gtl j hj).mono (k3.trans k35)
  have gvt5 : ∀ x, x < n → ∀ p ∈ vt x, Has g5 p.1 (TupI [.ref (pr p.2).obj, .ref ((pr p.2).va al)]) := fun x hx p hp => (gvt x hx p hp).mono k5
  refine .mk (fun i m cm S => ∃ Z, Zp n Z ∧ m = lo [("vconstraints", .ref vc), ("constraints", .ref c2), ("domains", .ref dm), ("self", .ref pb)] ∧ cm = [] ∧ S = cS D n Z (addE (eL c2 (c2f pr tl N i) vl n (lsf pr vt i)) X))
    (itb_list hA.hd (S.baseH gcc)) ⟨_, _, _, ⟨Z0, .zero, rfl, rfl, by rw [e0c, funext e0l]⟩, S.fit⟩ (fun i P' m cm S s hi Y => Y.baseH gcc) (fun i I ψ m cm S s v hi hv hval S => ?_) fun m cm S s hv S => ?_
  · obtain ⟨Z, hZ, rfl, rfl, rfl⟩ := hv
    rw [hC] at hval
    obtain ⟨j, hj, rfl⟩ := map_get hval
    have hiN : i < N := by rw [hCl] at hi; exact hi
    have hji : i = j := by
      obtain ⟨_, e⟩ := List.getElem?_eq_some_iff.mp hj
      rw [List.getElem_range] at e; exact e
    subst hji
    have K := P5.ok i hiN
    have gva := K.va (Sub.refl _) gal5
    refine a_tup hA.hd (S.baseH (gtl5 i hiN)) fun s2 g2 => ?_
    have S := S.grow g2
    refine ao_cons (a_name (r_store S fun s3 S => ao_cons (a_name (r_store S fun s4 S => ao_nil ?_))))
    have keepC : dropd pr i = false → c2f pr tl N (i + 1) = c2f pr tl N i ∧ lsf pr vt (i + 1) = lsf pr vt i := fun hd => by
      have e : stg (dropd pr) (i + 1) = stg (dropd pr) i := funext (stg_keep hd)
      constructor
      · unfold c2f; rw [e]
      · unfold lsf; rw [e]
    rcases K.cls with ⟨hrow, dx, hx, hdx, hsat⟩ | ⟨hrow, hlen, dx, st, sv, nn, hx, hdx, hst, hsat⟩
    · refine r_expr (r_callMeth (r_local S rfl (m_pre371 (S.stat T5) (S.base hx) (S.baseH hdx) ?_)))
      refine r_cw (args_cons (r_local S rfl (args_cons (r_local S rfl (args_cons (r_local S rfl (args_cons (r_local S rfl (args_nil ⟨keeps_K (S.stat T5).K kp_360, ?_⟩)))))))))
      by_cases hone : (pr i).vars.length = 1
      · obtain ⟨y, hy⟩ := List.length_eq_one_iff.mp hone
        have hd : dropd pr i = true := by unfold dropd; rw [hrow, hone]; rfl
        have yv : y ∈ (pr i).vars := by rw [hy]; exact List.mem_singleton.mpr rfl
        have yn := K.lt y yv
        obtain ⟨t1, r1, f1, f2, f3⟩ := lst_drop (d := dropd pr) (hvt y yn) hiN (by simpa using yv) (fun k hk => by simpa using (hP.sing i k hk hiN hrow).2.2 y yv) hd
        have fc : c2f pr tl N i = ((List.range i).filter fun j => !dropd pr j).map (fun j => Value.ref (tl j)) ++ .ref (tl i) :: (List.range' (i + 1) (N - i - 1)).map (fun j => Value.ref (tl j)) := by
          unfold c2f; rw [stage_at hiN, List.map_append, List.map_cons]
        have fc' : c2f pr tl N (i + 1) = ((List.range i).filter fun j => !dropd pr j).map (fun j => Value.ref (tl j)) ++ (List.range' (i + 1) (N - i - 1)).map (fun j => Value.ref (tl j)) := by
          unfold c2f; rw [stage_next hiN hd, List.map_append]
        have fl : (lsf pr vt i y).map (fun p => Value.ref p.1) = .ref t1 :: r1.map (fun p => Value.ref p.1) := by unfold lsf; rw [f2]; rfl
        have fl' : lsf pr vt (i + 1) y = r1 := f3
        obtain ⟨g', h1, h2, h3, h4, h5⟩ := S.call2 (Sc := cS D n Z (cpE c2 (c2f pr tl N i) y (vl y) ((lsf pr vt i y).map fun p => Value.ref p.1))) (pre_sub yn)
        rw [fl, fc] at h3 h5
        have gV1 : Has g5 ((pr i).va al) (LstN [(y : Int)]) := by rw [hy] at gva; exact gva
        have t1m : (t1, i) ∈ vt y := by rw [f1]; exact List.mem_cons_self
        have zN : (c2f pr tl N i).length ≤ 900 := by
          unfold c2f
          rw [List.length_map]
          have := List.length_filter_le (stg (dropd pr) i) (List.range N)
          rw [List.length_range] at this
          have := hP.len
          omega
        have zL : ((lsf pr vt i y).map fun p => Value.ref p.1).length ≤ 900 := by
          rw [List.length_map]
          unfold lsf
          have h1 := List.length_filter_le (fun p : Addr × Nat => stg (dropd pr) i p.2) (vt y)
          have h2 := congrArg List.length (hvt y yn)
          rw [List.length_map] at h2
          have h3 := List.length_filter_le (fun j => decide (y ∈ (pr j).vars)) (List.range N)
          rw [List.length_range] at h3
          have := hP.len
          omega
        rw [fc] at zN
        rw [fl] at zL
        have hpre : ∀ p ∈ ((List.range i).filter fun j => !dropd pr j).map (fun j => Value.ref (tl j)), OtherG g5 (pr i).obj p := fun p hp => by
          obtain ⟨k, hk, rfl⟩ := List.mem_map.mp hp
          have hki := List.mem_range.mp (List.mem_filter.mp hk).1
          obtain ⟨r1, r2, r3⟩ := hP.sing i k hki hiN hrow
          rcases (P5.ok k (by omega)).cls with ⟨_, dk, q1, ⟨odk, q2, _⟩, _⟩ | ⟨q0, _⟩
          · exact ⟨tl k, (pr k).obj, dk, _, odk, rfl, gtl5 k (by omega), q1, q2, r2⟩
          · rw [r1] at q0; cases q0
        refine wpAny_call (codeAny_mono (mpre (n := n) (D := D) (Z := Z) (Q := fun v s' => v = .none ∧ ∃ Z', Chg g' s4 s' ∧ Zp n Z' ∧ Led g' s'.heap (cS D n Z' (cpE c2 (((List.range i).filter fun j => !dropd pr j).map (fun j => Value.ref (tl j)) ++ (List.range' (i + 1) (N - i - 1)).map (fun j => Value.ref (tl j))) y (vl y) (r1.map fun p => Value.ref p.1))))
          (hA.deeper (k := 19) |>.le (by decide)) (by unfold cpE; rw [if_neg (by intro z; cases z), if_neg (by intro z; cases z)]) h1 (T5.mono h2.get) (h2.get _ _ hx) (hdx.mono h2) (gva.mono h2) K.lt K.len (gdm5.mono h2)
          (fun A' s' g2 Q' hA' a T' b L' hq => cpre_one hA' a T' (b.get _ _ (h2.get _ _ hx)) ((hdx.mono h2).mono b) ((gV1.mono h2).mono b) yn (B5.mono (h2.trans b)) ((gdm5.mono h2).mono b) ((gvc5.mono h2).mono b) (((gtl5 i hiN).mono h2).mono b)
            (((gvt5 y yn _ t1m).mono h2).mono b) (fun p hp => by
              obtain ⟨t, yy, dy, v', od, e1, e2, e3, e4, e5⟩ := hpre p hp
              exact ⟨t, yy, dy, v', od, e1, (e2.mono h2).mono b, b.get _ _ (h2.get _ _ e3), b.get _ _ (h2.get _ _ e4), e5⟩) zN zL hZ L' hq)
          h3 fun s' Z' a b d => ⟨rfl, Z', a, b, d⟩) fun r s' z => ?_)
        rcases r with e | (v | _ | _ | _) <;> first | exact z.elim | skip
        obtain ⟨rfl, Z', c1, hZ', L'⟩ := z
        have S := h5 s' _ c1 L'
        rw [← fc, ← fl] at S
        have S := S.sto (over_pre (ls' := lsf pr vt (i + 1)) (xs' := ((List.range i).filter fun j => !dropd pr j).map (fun j => Value.ref (tl j)) ++ (List.range' (i + 1) (N - i - 1)).map (fun j => Value.ref (tl j))) yn (by rw [fl']) (fun z hz hne => by
          unfold lsf
          exact lst_other (hvt z hz) (by rw [hy]; simpa using hne)))
        rw [← fc'] at S
        exact r_nil ⟨_, _, _, ⟨Z', hZ', rfl, rfl, rfl⟩, S.fit⟩
      · have hd : dropd pr i = false := by unfold dropd; simp [hone]
        obtain ⟨ec, el⟩ := keepC hd
        obtain ⟨g', h1, h2, h3, h4, h5⟩ := S.call2 (Sc := cS D n Z noS2) cs_sub
        refine wpAny_call (codeAny_mono (mpre (n := n) (D := D) (Z := Z) (E := noS2) (E' := noS2) (Q := fun v s' => v = .none ∧ ∃ Z', Chg g' s4 s' ∧ Zp n Z' ∧ Led g' s'.heap (cS D n Z' noS2))
          (hA.deeper (k := 19) |>.le (by decide)) rfl h1 (T5.mono h2.get) (h2.get _ _ hx) (hdx.mono h2) (gva.mono h2) K.lt K.len (gdm5.mono h2)
          (fun A' s' g2 Q' hA' a T' b L' hq => cpre_skip (hA'.le (by decide)) (Sub.refl _) (T'.mono a.get) (((gva.mono h2).mono b).mono a) (by rw [List.length_map]; exact hone) (by have := K.len; rw [List.length_map]; exact this) fun s2 c2' => hq s2 Z (Chg.of_grow a c2') hZ ⟨fun l x φ e => ⟨(L'.has l x φ e).1.mono c2'.sub, (L'.has l x φ e).2⟩, L'.inj⟩)
          h3 fun s' Z' a b d => ⟨rfl, Z', a, b, d⟩) fun r s' z => ?_)
        rcases r with e | (v | _ | _ | _) <;> first | exact z.elim | skip
        obtain ⟨rfl, Z', c1, hZ', L'⟩ := z
        have S := (h5 s' _ c1 L').sto cs_over
        exact r_nil ⟨_, _, _, ⟨Z', hZ', rfl, rfl, by rw [ec, el]⟩, S.fit⟩
    · have hd : dropd pr i = false := by unfold dropd; rw [hrow]; rfl
      obtain ⟨ec, el⟩ := keepC hd
      refine r_expr (r_callMeth (r_local S rfl (m_pre399 (S.stat T5) (S.base hx) (S.baseH hdx) ?_)))
      refine r_cw (args_cons (r_local S rfl (args_cons (r_local S rfl (args_cons (r_local S rfl (args_cons (r_local S rfl (args_nil ⟨keeps_K (S.stat T5).K kp_297, ?_⟩)))))))))
      obtain ⟨g', h1, h2, h3, h4, h5⟩ := S.call2 (Sc := fun _ => none) (fun l p e => by cases e)
      refine wpAny_call (cpre_skip (hA.deeper (k := 19) |>.le (by decide)) h1 (T5.mono h2.get) (gva.mono h2) (by rw [List.length_map]; exact hlen) (by have := K.len; rw [List.length_map]; exact this) fun s' c1 => ?_)
      have S := (h5 s' (fun _ => none) c1 (Led.nil _ _)).sto (fun l p e => over2_old rfl rfl e)
      exact r_nil ⟨_, _, _, ⟨Z, hZ, rfl, rfl, by rw [ec, el]⟩, S.fit⟩
  obtain ⟨Z, hZ, rfl, rfl, rfl⟩ := hv
  rw [hCl] at S
  refine r_nil (k_next ?_)
  -- for domain in domains.values()
  obtain ⟨ep5, gdmI5⟩ := gdm5.ep
  refine r_for (r_callMeth (r_local S rfl (m_dict bmDict_values (S.stat T5) (S.baseH gdm5) (r_cw0 (keeps_builtin _ _) (b_values (S.stat T5) sysD (S.baseH gdm5) fun v s' g' hv hvf => ?_)))))
  have S := S.grow g'
  refine .mk (fun i m cm S => ∃ Z, Zp n Z ∧ m = lo [("vconstraints", .ref vc), ("constraints", .ref c2), ("domains", .ref dm), ("self", .ref pb)] ∧ cm = [] ∧ S = cS D n Z (addE (eL c2 (c2f pr tl N N) vl n (lsf pr vt N)) X))
    (itb_values hA.hd hv (S.baseH gdmI5)) ⟨_, _, _, ⟨Z, hZ, rfl, rfl, rfl⟩, S.fit⟩ (fun i P' m cm S s hi Y => Y.baseH gdmI5) (fun i I ψ m cm S s v hi hv hval S => ?_) fun m cm S s hv S => ?_
  · obtain ⟨Z, hZ, rfl, rfl, rfl⟩ := hv
    obtain ⟨k, hk⟩ := hval
    obtain ⟨hin, hki⟩ := domKv_get hk
    have hv : v = .ref (D i).d := by
      unfold domKv at hk
      obtain ⟨x, h1, h2⟩ := map_get hk
      have := (List.getElem?_eq_some_iff.mp h1).2
      rw [List.getElem_range] at this
      cases h2
      rw [this]
    subst hv
    refine a_name (r_store S fun s S => ?_)
    refine r_expr (r_callMeth (r_local S rfl (fnN_dom fi_reset ty_reset (S.stat T5) (S.at (cs_d hin)) (S.baseH (B5.dd i hin)) (fun q => by kernel_rfl) ?_)))
    refine r_cw0 (keeps_K (S.stat T5).K kp_reset) (reset_in (hA.deeper (k := 19) |>.le (by decide)) S hin B5 T5 hZ fun s' Z' hZ' S => ?_)
    refine r_if (t_not (t_name (r_local S rfl (truthN (S.stat T5) bmD__len__ nobool_dom (S.at (cs_d hin)) (by have := hZ'.len hin; omega) fun s' g' => ?_))))
    have S := S.grow g'
    have hne : (Z'.X i).isEmpty = false := by
      have := hZ'.len hin
      cases q : Z'.X i with
      | nil => rw [q] at this; simp at this
      | cons _ _ => rfl
    rw [hne, if_neg (by decide)]
    exact r_nil (k_next (r_nil ⟨_, _, _, ⟨Z', hZ', rfl, rfl, rfl⟩, S.fit⟩))
  obtain ⟨Z, hZ, rfl, rfl, rfl⟩ := hv
  refine r_nil (k_next ?_)
  refine r_ret (r_tuple (args_cons (r_local S rfl (args_cons (r_local S rfl (args_cons (r_local S rfl (args_nil ⟨by simp, fun t s' g' ht htf => ?_⟩))))))))
  have S := S.newA (E' := fun l => if l = (13, 0) then some (t, TupI [.ref dm, .ref c2, .ref vc]) else eL c2 (c2f pr tl N N) vl n (lsf pr vt N) l) g' (13, 0) ht htf (fun l' q e => by
    by_cases q : l' = (13, 0)
    · rw [if_pos q] at e; cases e; exact .inl ⟨q, rfl⟩
    · rw [if_neg q] at e; exact .inr ⟨q, e⟩)
  obtain ⟨g6, k6, S, F6⟩ := S.freezeA noS2 (fun l p e => by cases e)
  have gt := F6 (13, 0) _ _ (by decide) (by decide) rfl rfl
  have k16 := k15.trans k6
  have gal6 := gal5.mono k6
  have gvl : ∀ x, x < n → Has g6 (vl x) (LstI ((lsf pr vt N x).map fun p => Value.ref p.1)) := fun x hx => F6 (15, x) _ _ (by show 3 ≤ 15; decide) (by show 15 < 30; decide) (by
    rw [if_neg (by intro z; cases z)]
    unfold eL
    rw [if_neg (by intro z; cases z), if_pos ⟨rfl, hx⟩]) rfl
  have inN : ∀ x, x < n → ∀ p ∈ vt x, p.2 < N ∧ x ∈ (pr p.2).vars := fun x hx p hp => by
    have : p.2 ∈ (List.range N).filter fun j => decide (x ∈ (pr j).vars) := hvt x hx ▸ List.mem_map_of_mem hp
    have h1 := List.mem_filter.mp this
    exact ⟨List.mem_range.mp h1.1, of_decide_eq_true h1.2⟩
  refine h s' g6 Z dm vc c2 al vl (fun x => (lsf pr vt N x).map fun p => (p.1, (pr p.2).con al)) t (k1.trans k16) S.chg ?_ hZ S.led gt
  refine ⟨B5.mono k6, gdm5.mono k6, sysD, gvc5.mono k6, fun x hx => ?_, fun x hx => ?_, fun x hx p hp => ?_, fun c hc => ?_, fun x hx p hp => ?_, fun c hc x hx => ?_, n3, n6⟩
  · have := gvl x hx
    rw [List.map_map]
    exact this
  · rw [List.length_map]
    unfold lsf
    have h1 := List.length_filter_le (fun p : Addr × Nat => stg (dropd pr) N p.2) (vt x)
    have h2 := congrArg List.length (hvt x hx)
    rw [List.length_map] at h2
    have h3 := List.length_filter_le (fun j => decide (x ∈ (pr j).vars)) (List.range N)
    rw [List.length_range] at h3
    have := hP.len
    omega
  · obtain ⟨q, hq, rfl⟩ := List.mem_map.mp hp
    exact (gvt5 x hx q (List.mem_filter.mp hq).1).mono k6
  · obtain ⟨j, hj, rfl⟩ := List.mem_map.mp hc
    have hjN := List.mem_range.mp (List.mem_filter.mp hj).1
    have K := P5.ok j hjN
    exact K.con k6 (K.va k6 gal6)
  · obtain ⟨q, hq, rfl⟩ := List.mem_map.mp hp
    have h1 := List.mem_filter.mp hq
    have h2 := (inN x hx q h1.1).1
    refine List.mem_map.mpr ⟨q.2, List.mem_filter.mpr ⟨List.mem_range.mpr h2, ?_⟩, rfl⟩
    have h3 := h1.2
    rw [stg_lt h2] at h3; exact h3
  · obtain ⟨j, hj, rfl⟩ := List.mem_map.mp hc
    have hj' := List.mem_filter.mp hj
    have hjN := List.mem_range.mp hj'.1
    have K := P5.ok j hjN
    have hx' : x ∈ (pr j).vars := hx
    have xn := K.lt x hx'
    have : j ∈ (vt x).map (·.2) := by rw [hvt x xn]; exact List.mem_filter.mpr ⟨hj'.1, by simpa using hx'⟩
    obtain ⟨q, hq, hqj⟩ := List.mem_map.mp this
    refine ⟨q.1, List.mem_map.mpr ⟨q, List.mem_filter.mpr ⟨hq, ?_⟩, by rw [hqj]⟩⟩
    rw [hqj, stg_lt hjN]; exact hj'.2
end
end Mine
end

section
open PySem PySem.W PySem.Calls PyProof.Rows
namespace Mine

theorem Own.lend {ι : Type} {g0 h : Heap} {W Wc : Tag ι → Option (Addr × (Obj → Prop))} (O : Own g0 W h) (k0 : Sub g0 h) (hsub : ∀ t p, Wc t = some p → W t = some p) :
    ∃ g, Sub g h ∧ Sub g0 g ∧ Led g h Wc ∧ (∀ t a φ, W t = some (a, φ) → Wc t = none → Has g a φ) ∧ ∀ h' Wc', Sub g h' → Led g h' Wc' → Own g0 (over2 Wc Wc' W) h' := by
  let p : Addr → Prop := fun a => ∃ t φ, Wc t = some (a, φ)
  have H := hide_get h p
  have sub : Sub (hide h p) h := ⟨fun a o e => by
    by_cases q : p a
    · rw [(H a).1 q] at e; cases e
    · rw [(H a).2 q] at e; exact e⟩
  have cg : Sub g0 (hide h p) := ⟨fun a o e => by
    refine ((H a).2 fun q => ?_).trans (k0.get a o e)
    obtain ⟨t, φ, e1⟩ := q
    rw [(O.has _ _ _ (hsub _ _ e1)).1] at e; cases e⟩
  have oth : ∀ t a φ, W t = some (a, φ) → Wc t = none → Has (hide h p) a φ := fun t a φ e hn => by
    obtain ⟨_, o, ho, hφ⟩ := O.has t a φ e
    refine ⟨o, ((H a).2 fun q => ?_).trans ho, hφ⟩
    obtain ⟨t', φ', e1⟩ := q
    have : t' = t := O.inj _ _ _ _ _ (hsub _ _ e1) e
    rw [this, hn] at e1; cases e1
  refine ⟨hide h p, sub, cg, ⟨fun t a φ e => ⟨(O.has t a φ (hsub _ _ e)).2, (H a).1 ⟨t, φ, e⟩⟩, fun t t' a φ φ' e e' => O.inj _ _ _ _ _ (hsub _ _ e) (hsub _ _ e')⟩, oth, fun h' Wc' k hl => ?_⟩
  have shape : ∀ {t : Tag ι} {a : Addr} {φ : Obj → Prop}, over2 Wc Wc' W t = some (a, φ) → (W t = some (a, φ) ∧ Wc t = none) ∨ Wc' t = some (a, φ) := by
    intro t a φ e
    unfold over2 at e
    cases hq' : Wc' t with
    | some p' => rw [hq'] at e; exact .inr e
    | none =>
      rw [hq'] at e
      cases hq : Wc t with
      | none => rw [hq] at e; exact .inl ⟨e, rfl⟩
      | some q => rw [hq] at e; cases e
  refine ⟨fun t a φ e => ?_, fun t t' a φ φ' e e' => ?_⟩
  · rcases shape e with ⟨h1, h2⟩ | h1
    · obtain ⟨o, ho, hφ⟩ := oth t a φ h1 h2
      exact ⟨(O.has t a φ h1).1, o, k.get _ _ ho, hφ⟩
    · obtain ⟨h2, h3⟩ := hl.has t a φ h1
      exact ⟨cg.none h3, h2⟩
  · rcases shape e with ⟨h1, h2⟩ | h1 <;> rcases shape e' with ⟨h1', h2'⟩ | h1'
    · exact O.inj t t' a φ φ' h1 h1'
    · obtain ⟨o, ho, _⟩ := oth t a φ h1 h2
      rw [(hl.has _ a φ' h1').2] at ho; cases ho
    · obtain ⟨o, ho, _⟩ := oth t' a φ' h1' h2'
      rw [(hl.has _ a φ h1).2] at ho; cases ho
    · exact hl.inj t t' a φ φ' h1 h1'

/-- the frame's own locals are put ahead of the frames around -/
def pushL (p : Addr × (Obj → Prop)) (S : Sto Lab) : Sto Lab := fun l => if l.1 = 30 then (match l.2 with | 0 => some p | i + 1 => S (30, i)) else S l
def tagL : Tag Lab → Lab
  | .loc => (30, 0)
  | .lab l => if l.1 = 30 then (30, l.2 + 1) else l
  | _ => (0, 0)
def labT (l : Lab) : Tag Lab := if l.1 = 30 then (match l.2 with | 0 => .loc | i + 1 => .lab (30, i)) else .lab l
def locW (L : Addr) (m : Loc) (S : Sto Lab) : Tag Lab → Option (Addr × (Obj → Prop))
  | .loc => some (L, locP m)
  | .lab l => S l
  | _ => none
theorem labT_inj {l l' : Lab} (h : labT l = labT l') : l = l' := by
  obtain ⟨a, b⟩ := l
  obtain ⟨a', b'⟩ := l'
  unfold labT at h
  dsimp only at h
  by_cases q : a = 30
  · subst q
    rw [if_pos rfl] at h
    by_cases q' : a' = 30
    · subst q'
      rw [if_pos rfl] at h
      cases b <;> cases b' <;> first | rfl | (cases h; done) | (cases h; rfl)
    · rw [if_neg q'] at h
      cases b with
      | zero => cases h
      | succ b => cases h; exact absurd rfl q'
  · rw [if_neg q] at h
    by_cases q' : a' = 30
    · subst q'
      rw [if_pos rfl] at h
      cases b' with
      | zero => cases h
      | succ b => cases h; exact absurd rfl q
    · rw [if_neg q'] at h
      cases h; rfl
theorem pushL_locW {L : Addr} {m : Loc} {S : Sto Lab} (l : Lab) : pushL (L, locP m) S l = locW L m S (labT l) := by
  obtain ⟨a, b⟩ := l
  unfold pushL labT
  dsimp only
  by_cases q : a = 30
  · subst q
    rw [if_pos rfl, if_pos rfl]
    cases b <;> rfl
  · rw [if_neg q, if_neg q]; rfl
theorem led_push {g h : Heap} {L : Addr} {m : Loc} {S : Sto Lab} (X : Led g h (locW L m S)) : Led g h (pushL (L, locP m) S) :=
  X.ren labT (fun l p e => by rw [← pushL_locW]; exact e) fun l l' p p' _ _ q => labT_inj q
theorem tagL_30 {b : Nat} : tagL (.lab (30, b)) = (30, b + 1) := rfl
theorem tagL_ne {l : Lab} (h : l.1 ≠ 30) : tagL (.lab l) = l := if_neg h
theorem tagL_inj {l l' : Lab} (q : tagL (.lab l) = tagL (.lab l')) : l = l' := by
  by_cases z : l.1 = 30 <;> by_cases z' : l'.1 = 30
  · obtain ⟨a, b⟩ := l
    obtain ⟨a', b'⟩ := l'
    dsimp only at z z'
    subst z z'
    rw [tagL_30, tagL_30] at q
    have := congrArg Prod.snd q
    have : b + 1 = b' + 1 := this
    rw [show b = b' from by omega]
  · rw [tagL_ne z'] at q
    obtain ⟨a, b⟩ := l
    dsimp only at z
    subst z
    rw [tagL_30] at q
    exact absurd (congrArg Prod.fst q.symm) z'
  · rw [tagL_ne z] at q
    obtain ⟨a, b⟩ := l'
    dsimp only at z'
    subst z'
    rw [tagL_30] at q
    exact absurd (congrArg Prod.fst q) z
  · rwa [tagL_ne z, tagL_ne z'] at q
theorem tagL_loc {l : Lab} (q : tagL (.lab l) = (30, 0)) : False := by
  by_cases z : l.1 = 30
  · obtain ⟨a, b⟩ := l
    dsimp only at z
    subst z
    rw [tagL_30] at q
    have := congrArg Prod.snd q
    have : b + 1 = 0 := this
    omega
  · rw [tagL_ne z] at q
    exact z (congrArg Prod.fst q)
theorem led_pull {g h : Heap} {L : Addr} {m : Loc} {S : Sto Lab} (X : Led g h (pushL (L, locP m) S)) : Led g h (locW L m S) := by
  refine X.ren tagL (fun t p e => ?_) fun t t' p p' e e' q => ?_
  · match t, e with
    | .loc, e => exact e
    | .lab l, e =>
      have e1 : S l = some p := e
      by_cases z : l.1 = 30
      · obtain ⟨a, b⟩ := l
        dsimp only at z
        subst z
        exact e1
      · rw [tagL_ne z]
        unfold pushL
        rw [if_neg z]; exact e1
  · match t, e, t', e', q with
    | .loc, _, .loc, _, _ => rfl
    | .loc, _, .lab l, _, q => exact (tagL_loc q.symm).elim
    | .lab l, _, .loc, _, q => exact (tagL_loc q).elim
    | .lab l, _, .lab l', _, q => rw [tagL_inj q]

section
variable {c : Cx} {m cm : Loc} {S Sc : Sto Lab} {s : Shared}
/-- a part of the ledger and the frame's own locals are lent -/
theorem St.callL (X : St c [] m cm S s) (hsub : ∀ l p, Sc l = some p → S l = some p) :
    ∃ g, Sub g s.heap ∧ Sub c.g g ∧ Led g s.heap (pushL (c.L, locP m) Sc) ∧ (∀ l a φ, S l = some (a, φ) → Sc l = none → Has g a φ) ∧ (∀ x a v, c.cs.lookup x = some a → cm.lookup x = some v → g.IsCell a (some v)) ∧
      ∀ s' Sc' m', Chg g s s' → Led g s'.heap (pushL (c.L, locP m') Sc') → St c [] m' cm (over2 Sc Sc' S) s' := by
  obtain ⟨g, h1, h2, h3, h4, h5⟩ := X.own.lend X.chg.sub (Wc := locW c.L m Sc) (fun t p e => by
    cases t with
    | loc => exact e
    | cel x => cases e
    | pin k => cases e
    | lab l => exact hsub _ _ e)
  refine ⟨g, h1, h2, led_push h3, fun l a φ e hn => h4 (.lab l) a φ e hn, fun x a v ea ev => ?_, fun s' Sc' m' hc hl => ⟨⟨h2.trans hc.sub, hc.gens.trans X.chg.gens, hc.drawn.trans X.chg.drawn, hc.os.trans X.chg.os⟩, ?_⟩⟩
  · obtain ⟨o, ho, u, hd, hu⟩ := h4 (.cel x) a (celP cm x) (by show (c.cs.lookup x).map _ = _; rw [ea]; rfl) rfl
    rw [hu v ev] at hd
    exact ⟨o, ho, hd⟩
  · refine (h5 s'.heap (locW c.L m' Sc') hc.sub (led_pull hl)).weaken fun t b φ' e => ⟨φ', ?_, fun _ q => q⟩
    cases t with
    | loc => exact over2_new e
    | cel x => exact over2_old rfl rfl e
    | pin k => cases e
    | lab l =>
      have e' : over2 Sc Sc' S l = some (b, φ') := e
      exact e'
/-- a frame without cells, out of a ledger that bears its locals -/
theorem St.ofPush {g : Heap} {L : Addr} {m : Loc} {S : Sto Lab} {s : Shared} (hg : Sub g s.heap) (hL : Led g s.heap (pushL (L, locP m) S)) : St ⟨g, L, [], s⟩ [] m [] S s := by
  have hL := led_pull hL
  have key : ∀ {t : Tag Lab} {p : Addr × (Obj → Prop)}, mkW L m [] [] [] S t = some p → locW L m S t = some p := by
    intro t p e
    cases t with
    | loc => exact e
    | cel x => cases e
    | pin k => cases e
    | lab l => exact e
  exact ⟨⟨hg, .refl _, rfl, rfl⟩, ⟨fun t a φ e => ⟨(hL.has _ _ _ (key e)).2, (hL.has _ _ _ (key e)).1⟩, fun t t' a φ φ' e e' => hL.inj _ _ _ _ _ (key e) (key e')⟩⟩
end
theorem push_out {D : Nat → DA} {n : Nat} {Z : DSt} {E : Sto Lab} {fr : List (Addr × Loc)} {L : Addr} {m : Loc} (l : Lab) : pushL (L, locP m) (cS D n Z (addE E (outS fr))) l = cS D n Z (addE E (outS ((L, m) :: fr))) l := by
  obtain ⟨a, b⟩ := l
  unfold pushL cS addE outS
  dsimp only
  by_cases q : a = 30
  · subst q
    rw [if_pos rfl, if_neg (by decide), if_neg (by decide), if_pos rfl]
    cases b with
    | zero => rfl
    | succ b => simp
  · rw [if_neg q]
    by_cases q1 : a < 3
    · rw [if_pos q1, if_pos q1]
    · rw [if_neg q1, if_neg q1]
      by_cases q2 : a < 30
      · rw [if_pos q2, if_pos q2]
      · rw [if_neg q2, if_neg q2, if_neg q, if_neg q]
theorem add_out {D : Nat → DA} {n : Nat} {Z : DSt} {fr : List (Addr × Loc)} (l : Lab) : cS D n Z (addE noS2 (outS fr)) l = cS D n Z (outS fr) l := by
  unfold cS addE
  by_cases q1 : l.1 < 3
  · rw [if_pos q1, if_pos q1]
  · rw [if_neg q1, if_neg q1]
    by_cases q2 : l.1 < 30
    · rw [if_pos q2]
      unfold outS
      rw [if_neg (by omega)]
    · rw [if_neg q2]
theorem Fits.cons {outer : List Env} {fr : List (Addr × Loc)} {env : Env} {L : Addr} {m : Loc} (h : Fits outer fr) (h1 : env.frame = some L) (h2 : env.scope.kind ≠ .module) : Fits (env :: outer) ((L, m) :: fr) :=
  ⟨by rw [List.map_cons, List.map_cons, h.1, h1], fun e he => by
    rcases List.mem_cons.mp he with rfl | he
    · exact h2
    · exact h.2 e he⟩
end Mine
end

section
open PySem PySem.W PySem.Calls PyProof.Rows
namespace Mine

theorem good_start {n : Nat} {cs : List Con} {Z : DSt} (h : Zp n Z) (hc : ∀ c ∈ cs, c.vars ≠ []) : Good n cs [] Z := by
  refine ⟨⟨fun y hy _ v hv hn => ?_, fun y hy _ => ?_, fun c hcc hall => ?_⟩, ⟨fun y hy => ?_, fun y hy => ?_⟩⟩
  · exfalso
    refine hn ((h y hy).1.symm.subset ?_)
    rcases hv with rfl | rfl <;> simp
  · intro q
    have := h.len hy
    rw [q] at this; simp at this
  · exfalso
    cases hv : c.vars with
    | nil => exact hc c hcc hv
    | cons x r =>
      have := hall x (by rw [hv]; exact List.mem_cons_self)
      cases this
  · obtain ⟨h1, h2, h3⟩ := h y hy
    rw [h2, List.append_nil]; exact h1
  · rw [(h y hy).2.2]; exact Nat.le_refl _
theorem csOf_all {w : World} {g : Heap} {n N : Nat} {pr : Nat → PreC} {al : Addr} {σ : Nat → Int} (hP : PreL w g n N pr) (h01 : In01 n σ) : (∀ c ∈ csOf pr N al, c.sat σ) ↔ ∀ i, i < N → (pr i).sat σ := by
  constructor
  · intro h i hi
    by_cases hd : dropd pr i = true
    · have K := hP.ok i hi
      unfold dropd at hd
      rw [Bool.and_eq_true] at hd
      obtain ⟨h1, h2⟩ := hd
      rcases K.cls with ⟨_, _, _, _, e⟩ | ⟨q, _⟩
      · rw [e]
        obtain ⟨x, hx⟩ := List.length_eq_one_iff.mp (eq_of_beq h2)
        show sumBy σ (pr i).vars ≤ 1
        rw [hx]
        simp only [sumBy]
        rcases h01 x (K.lt x (by rw [hx]; exact List.mem_singleton.mpr rfl)) with e | e <;> rw [e] <;> decide
      · rw [q] at h1; cases h1
    · exact h ((pr i).con al) (List.mem_map.mpr ⟨i, List.mem_filter.mpr ⟨List.mem_range.mpr hi, by simpa using hd⟩, rfl⟩)
  · intro h c hc
    obtain ⟨j, hj, rfl⟩ := List.mem_map.mp hc
    exact h j (List.mem_range.mp (List.mem_filter.mp hj).1)
theorem perm_of_mem {α : Type} [DecidableEq α] : ∀ {l l' : List α}, l.Nodup → l'.Nodup → (∀ x, x ∈ l ↔ x ∈ l') → l.Perm l'
  | [], l', _, _, h => by
    cases l' with
    | nil => exact List.Perm.refl _
    | cons a r => exact absurd ((h a).mpr List.mem_cons_self) (by simp)
  | a :: l, l', h1, h2, h => by
    have ha : a ∈ l' := (h a).mp List.mem_cons_self
    have hn := List.nodup_cons.mp h1
    refine List.Perm.trans (List.Perm.cons a (perm_of_mem hn.2 (h2.erase a) fun x => ?_)) (List.perm_cons_erase ha).symm
    rw [h2.mem_erase_iff]
    constructor
    · intro hx
      exact ⟨fun e => hn.1 (e ▸ hx), (h x).mp (List.mem_cons_of_mem _ hx)⟩
    · rintro ⟨hne, hx⟩
      rcases List.mem_cons.mp ((h x).mpr hx) with e | e
      · exact absurd e hne
      · exact e
theorem nodup_map_cast : ∀ {l : List Nat}, l.Nodup → (natsV l).Nodup
  | [], _ => by simp
  | a :: l, h => by
    have := List.nodup_cons.mp h
    refine List.nodup_cons.mpr ⟨fun hm => ?_, nodup_map_cast this.2⟩
    obtain ⟨b, hb, e⟩ := List.mem_map.mp hm
    have : b = a := Int.ofNat.inj e
    subst this
    exact (List.nodup_cons.mp h).1 hb
theorem asg_keys {n : Nat} {cs : List Con} {st : List Frm} {Z : DSt} (h : Good n cs st Z) (hall : ∀ x, x < n → ¬ Free (asg st) x) : ((asg st).map (·.1)).Perm (natsV (List.range n)) := by
  obtain ⟨h1, h2⟩ := h.nodup
  have e : (asg st).map (·.1) = natsV (st.reverse.map (·.x)) := by simp [asg, natsV]
  rw [e]
  have h3 : (st.reverse.map (·.x)).Nodup := by rw [List.map_reverse]; exact (List.reverse_perm _).nodup_iff.mpr h1
  refine List.Perm.map _ (perm_of_mem h3 List.nodup_range fun x => ?_)
  rw [List.map_reverse, List.mem_reverse, List.mem_range]
  constructor
  · exact h2 x
  · intro hx
    have := hall x hx
    rw [asg_free] at this
    exact Classical.not_not.mp this

theorem out_tail {g h : Heap} {p : Addr × Loc} {fr : List (Addr × Loc)} (L : Led g h (outS (p :: fr))) : Led g h (outS fr) := by
  refine L.ren (fun l => (l.1, l.2 + 1)) (fun l q e => ?_) fun l l' q q' _ _ e => ?_
  · unfold outS at e ⊢
    by_cases z : l.1 = 30
    · rw [if_pos z] at e; rw [if_pos z]; exact e
    · rw [if_neg z] at e; cases e
  · have h1 := congrArg Prod.fst e
    have h2 := congrArg Prod.snd e
    have h1 : l.1 = l'.1 := h1
    have h2 : l.2 + 1 = l'.2 + 1 := h2
    exact Prod.ext h1 (by omega)
theorem out_tail3 {g h : Heap} {p : Addr × Loc} {fr : List (Addr × Loc)} {q0 : Addr × (Obj → Prop)} (L : Led g h (updS (outS (p :: fr)) (3, 0) q0)) : Led g h (updS (outS fr) (3, 0) q0) := by
  refine L.ren (fun l => if l.1 = 30 then (l.1, l.2 + 1) else l) (fun l q e => ?_) fun l l' q q' e e' z => ?_
  · unfold updS outS at e ⊢
    by_cases z : l.1 = 30
    · have hne : l ≠ (3, 0) := by rintro rfl; exact absurd z (by decide)
      rw [if_neg hne, if_pos z] at e
      rw [if_pos z, if_neg (by intro t; have := congrArg Prod.fst t; rw [z] at this; exact absurd this (by decide)), if_pos z]; exact e
    · rw [if_neg z] at e
      rw [if_neg z, if_neg z]
      by_cases z1 : l = (3, 0)
      · rw [if_pos z1] at e; rw [if_pos z1]; exact e
      · rw [if_neg z1] at e; cases e
  · by_cases z1 : l.1 = 30 <;> by_cases z2 : l'.1 = 30
    · rw [if_pos z1, if_pos z2] at z
      have h2 : l.2 + 1 = l'.2 + 1 := congrArg Prod.snd z
      exact Prod.ext (z1.trans z2.symm) (by omega)
    · rw [if_pos z1, if_neg z2] at z
      exact absurd ((congrArg Prod.fst z.symm).trans z1) z2
    · rw [if_neg z1, if_pos z2] at z
      exact absurd ((congrArg Prod.fst z).trans z2) z1
    · rwa [if_neg z1, if_neg z2] at z

theorem fi_args {w : World} : findIn (Kf w) (.ref 110) "_getArgs" = some (some (.ref 107)) := by kernel_rfl
theorem ty_107 {w : World} : typeIn (Kf w) (.ref 107) = some (.type "function") := by kernel_rfl
theorem kp_107 {w : World} : keepIn (Kf w) (.ref 107) = true := by kernel_rfl
theorem fi_solve {w : World} : findIn (Kf w) (.ref 186) "getSolution" = some (some (.ref 176)) := by kernel_rfl
theorem ty_176 {w : World} : typeIn (Kf w) (.ref 176) = some (.type "function") := by kernel_rfl
theorem kp_176 {w : World} : keepIn (Kf w) (.ref 176) = true := by kernel_rfl
theorem lk_solve {w : World} (q : Nat × Nat) : lookIn "getSolution" (dictOf [attrE w "_forwardcheck" q.1 (.bool true)] q.2) = some none := by kernel_rfl

section
variable {w : World} {A : Around} {s0 : Shared} {g : Heap} {D : Nat → DA} {n N : Nat} {pr : Nat → PreC}
theorem getSol_spec {outer : List Env} {fr : List (Addr × Loc)} {pb pd slv sdx cl vd : Addr} {Q : Value → Shared → Prop} (hA : Ok A 24) (hfr : A.frames = some outer) (hF : Fits outer fr) (hg : Sub g s0.heap) (T : Stat w g) (gp : g.get? pb = some (instObj 110 pd)) (gpd : Has g pd (ProbD w slv cl vd))
    (hvd : (vd == sysModules) = false) (gvd : Has g vd (DicK w (domKv D n))) (B : DomB w g D n) (n3 : 3 ≤ n) (n6 : n ≤ 6) (hP : PreL w g n N pr) (gcl : Has g cl (LstI ((List.range N).map fun j => Value.ref (pr j).ta)))
    (gsv : g.get? slv = some (instObj 186 sdx)) (gsd : Has g sdx (SolvD w)) (L : Led g s0.heap (cS D n Z0 (outS fr)))
    (hN : ∀ s', (∀ σ, In01 n σ → ¬ ∀ i, i < N → (pr i).sat σ) → Chg g s0 s' → Led g s'.heap (outS fr) → Q .none s')
    (hY : ∀ s' r a σ, In01 n σ → (∀ i, i < N → (pr i).sat σ) → (a.map (·.1)).Perm (natsV (List.range n)) → (∀ k : Nat, k < n → a.lookup (k : Int) = some (σ k)) → Chg g s0 s' → Led g s'.heap (updS (outS fr) (3, 0) (r, DicN w a)) → (r == sysModules) = false → Q (.ref r) s') :
    codeAny (model Pr w) A (.call (.ref 86) ⟨[.ref pb], []⟩) (Rv Q) s0 := by
  have gpd0 := gpd
  have gsd0 := gsd
  obtain ⟨_, gpd, q, rfl⟩ := gpd
  obtain ⟨_, gsd, q2, rfl⟩ := gsd
  refine r_enterC (S := cS D n Z0 (addE noS2 (outS fr))) (binds := [("self", .ref pb)]) (by exact rfl) hA.room hg T (by kernel_rfl) (BindsTo.of_eq rfl) (by rfl) (L.sub fun l p e => by rw [← add_out]; exact e) fun Lc s₂ S => ?_
  refine r_assignTup (r_callMeth (r_local S rfl (r_getMethod (S.stat T) (S.base gp) ga_prob rfl gh_prob fi_args ty_107 (.inl rfl) (.inr ⟨pd, _, rfl, S.base gpd, lk_args q slv cl vd⟩) ?_)))
  refine r_cw0 (keeps_K (S.stat T).K kp_107) ?_
  obtain ⟨g1, h1, h2, h3, h4, _, _⟩ := S.callL (Sc := cS D n Z0 (addE noS2 (outS fr))) (fun l p e => e)
  have h3 := h3.sub (S' := cS D n Z0 (addE noS2 (outS ((Lc, lo [("self", .ref pb)]) :: fr)))) fun l p e => (push_out l).trans e
  refine wpAny_call (codeAny_mono (getArgs_spec (X := outS ((Lc, lo [("self", .ref pb)]) :: fr)) (Q := fun v s' => ∃ g' Z dm vc c2 al vl vcs t, v = .ref t ∧ Sub g1 g' ∧ Chg g' s₂ s' ∧ SolvIn w g' D n (csOf pr N al) dm vc vl vcs ∧ Zp n Z ∧ Led g' s'.heap (cS D n Z (addE noS2 (outS ((Lc, lo [("self", .ref pb)]) :: fr)))) ∧ Has g' t (TupI [.ref dm, .ref c2, .ref vc]))
    (hA.deeper (k := 23) |>.le (by decide)) h1 (T.mono h2.get) (h2.get _ _ gp) (gpd0.mono h2) hvd (gvd.mono h2) (B.mono h2) n3 n6 (hP.mono h2) (gcl.mono h2) h3
    fun s' g' Z dm vc c2 al vl vcs t a b c d e f => ⟨g', Z, dm, vc, c2, al, vl, vcs, t, rfl, a, b, c, d, e, f⟩) fun r s' z => ?_)
  rcases r with e | (v | _ | _ | _) <;> first | exact z.elim | skip
  obtain ⟨g2, Z, dm, vc, c2, al, vl, vcs, t, rfl, k2, c1, V, hZ, L2, gt⟩ := z
  have k02 := h2.trans k2
  have C1 : Chg g s0 s' := S.chg.trans (Chg.weaken k02 c1)
  have S := St.ofPush (m := lo [("self", .ref pb)]) c1.sub (L2.sub (S' := pushL (Lc, locP (lo [("self", .ref pb)])) (cS D n Z (addE noS2 (outS fr)))) fun l p e => (push_out l).symm.trans e)
  have T2 := T.mono k02.get
  refine a_tup hA.hd (S.baseH gt) fun s2 g' => ?_
  have S := S.grow g'
  refine ao_cons (a_name (r_store S fun s3 S => ao_cons (a_name (r_store S fun s4 S => ao_cons (a_name (r_store S fun s5 S => ao_nil ?_))))))
  refine r_if (t_not (t_name (r_local S rfl (d_truth V.sys (S.baseH V.dom) (by rw [domKv_len]; omega) fun s' g' => ?_))))
  have S := S.grow g'
  have hne : (domKv D n).isEmpty = false := by
    have := domKv_len (D := D) (n := n)
    cases q : domKv D n with
    | nil => rw [q] at this; simp at this; omega
    | cons _ _ => rfl
  rw [hne, if_neg (by decide)]
  refine r_nil (k_next ?_)
  refine r_ret (r_callMeth (r_attr (r_local S rfl (attr_plain (S.stat T2) (S.base (k02.get _ _ gp)) (S.base (k02.get _ _ gpd)) ga_prob (fo_solver q slv cl vd) rfl fun s' g' => ?_))))
  have S := S.grow g'
  refine r_getMethod (S.stat T2) (S.base (k02.get _ _ gsv)) ga_solv rfl gh_solv fi_solve ty_176 (.inl rfl) (.inr ⟨sdx, _, rfl, S.base (k02.get _ _ gsd), lk_solve q2⟩) ?_
  refine r_cw (args_cons (r_local S rfl (args_cons (r_local S rfl (args_cons (r_local S rfl (args_nil ⟨keeps_K (S.stat T2).K kp_176, ?_⟩)))))))
  have C2 : Chg g s0 _ := C1.trans (Chg.weaken k02 S.chg)
  have S := S.fit (m' := lo [("self", .ref pb)])
  obtain ⟨g3, j1, j2, j3, j4, _, _⟩ := S.callL (Sc := cS D n Z (addE noS2 (outS fr))) (fun l p e => e)
  have j3 := j3.sub (S' := cS D n Z (outS ((Lc, lo [("self", .ref pb)]) :: fr))) fun l p e => (push_out l).trans ((add_out l).trans e)
  have k03 := k02.trans j2
  have T3 := T2.mono j2.get
  have hcs : ∀ c ∈ csOf pr N al, c.vars ≠ [] := fun c hc => by
    obtain ⟨j, hj, rfl⟩ := List.mem_map.mp hc
    exact (hP.ok j (List.mem_range.mp (List.mem_filter.mp hj).1)).ne
  have hlt : ∀ c ∈ csOf pr N al, ∀ x ∈ c.vars, x < n := fun c hc => by
    obtain ⟨j, hj, rfl⟩ := List.mem_map.mp hc
    exact (hP.ok j (List.mem_range.mp (List.mem_filter.mp hj).1)).lt
  refine wpAny_call (codeAny_mono (solve_spec (Q := fun v s' => Q v s') (fr := (Lc, lo [("self", .ref pb)]) :: fr) (hA.deeper (k := 23) |>.le (by decide)) (Around.frames_deeper hfr) (hF.cons rfl (by intro z; cases z)) j1 T3 (V.mono j2) (k03.get _ _ gsv) (gsd0.mono k03) (good_start hZ hcs) j3
    (fun s' hno c3 L3 => hN s' (fun σ h01 hs => hno σ ⟨h01, (csOf_all hP h01).mpr hs⟩) (C2.trans (Chg.weaken k03 c3)) (out_tail (L3.weaken k03)))
    (fun st Z' r s' hG hall c3 L3 hr => ?_)) fun r s' z => by rcases r with e | (_ | _ | _ | _) <;> exact z)
  have hS := hG.done hall hlt
  refine hY s' r (asg st) _ hS.1 ((csOf_all hP hS.1).mp hS.2) (asg_keys hG hall) (fun k hk => ?_) (C2.trans (Chg.weaken k03 c3)) (out_tail3 (L3.weaken k03)) hr
  have := hall k hk
  unfold Free at this
  cases q : (asg st).lookup (k : Int) with
  | none => exact absurd q this
  | some v => rfl
end
end Mine
end

section
open PySem PySem.W PySem.Calls PyProof.Rows
namespace Mine

section
variable {w : World} {A : Around} {s : Shared} {env : Env} {a b : Int} {t u : Tok}
theorem i_mod {Q : Value → Shared → Prop} (hb : b ≠ 0) (h : ∀ t s', Grow s s' → Q (.int (a.fmod b) t) s') : WA w A (binaryOp .Mod (.int a t) (.int b u)) Q s := mod_int' hb (h _ _ (Grow.tok s _))
theorem i_fdiv {Q : Value → Shared → Prop} (hb : b ≠ 0) (hs : b.natAbs < 1073741824) (h : ∀ t s', Grow s s' → Q (.int (a.fdiv b) t) s') : WA w A (binaryOp .FloorDiv (.int a t) (.int b u)) Q s := floordiv_int hb (h _ _ (Grow.tok s _)) (hp := .inl (PyProof.noPylong_small hs))
theorem i_and {Q : Value → Shared → Prop} (h : ∀ t s', Grow s s' → Q (.int (Builtin.bitAnd a b) t) s') : WA w A (binaryOp .BitAnd (.int a t) (.int b u)) Q s := and_int (h _ _ (Grow.tok s _))
theorem i_pow2 {n : Nat} {Q : Value → Shared → Prop} (hn : n ≤ 100) (h : ∀ t s', Grow s s' → Q (.int (2 ^ n : Nat) t) s') : WA w A (binaryOp .Pow (.int 2 t) (.int n u)) Q s :=
  pow_int_small (by omega) (by omega) (by decide) (by
    have := h s.toks _ (Grow.tok s (s.toks + 1))
    simpa using this)
theorem i_rsh {n : Nat} {Q : Value → Shared → Prop} (h : ∀ t s', Grow s s' → Q (.int (a.fdiv (2 ^ n)) t) s') : WA w A (binaryOp .RShift (.int a t) (.int n u)) Q s := rshift_int (by omega) (h _ _ (Grow.tok s _))
theorem b_range {n : Nat} {Q : Value → Shared → Prop} (h : ∀ r s', Grow s s' → Has s'.heap r (RngI n) → s.heap.get? r = none → Q (.ref r) s') : WA w A (call (.type "range") [.int n t]) Q s :=
  call_range_1 (h _ _ (Grow.of (Sub.push _ _)) ⟨_, Heap.get?_push_size _ rfl, _, _, _, rfl⟩ (Heap.get?_none_of_le (Nat.le_refl _)))
theorem b_min {Q : Value → Shared → Prop} (hh : A.handled = none) (h : ∀ t s', Grow s s' → Q (.int (min a b) t) s') : WA w A (call (.builtin "min") [.int a t, .int b u]) Q s :=
  min_two_ints hh fun h' tk k => by
    by_cases q : b < a
    · rw [if_pos q]
      have := h u _ (Grow.of (s := s) (t := tk) ⟨k⟩)
      rwa [show min a b = b from by omega] at this
    · rw [if_neg q]
      have := h t _ (Grow.of (s := s) (t := tk) ⟨k⟩)
      rwa [show min a b = a from by omega] at this
theorem r_ifx {test body orelse : Expr} {pos : Pos} {Q : Value → Shared → Prop}
    (h : WA w A (isTrue test env (eval test env)) (fun c s₂ => if c = true then WA w A (eval body env) Q s₂ else WA w A (eval orelse env) Q s₂) s) : WA w A (eval (.IfExp test body orelse pos) env) Q s := IfExp_ h
/-- a, b = x, y with the stores swapped -/
theorem r_assignSw {elts : List Expr} {k : Nat} {tpos pos : Pos} {value : Expr} {rest : List Stmt} {names : List Str} {Q : Flow → Shared → Prop} (hh : A.handled = none)
    (h : WA w A (eval value env) (fun v s₁ => ∃ t vs, v = .ref t ∧ Has s₁.heap t (TupI vs) ∧ vs.length = names.length ∧ ∀ s₂, Grow s₁ s₂ → WA w A (assignInOrder (names.reverse.map fun n => bindName env n) vs.reverse) (fun _ s₃ => WA w A (execs rest env) Q s₃) s₂) s)
    (hs : swapsWithSole [.Tuple elts k tpos] value pos.line env = pure false := by rfl)
    (hw : swappedStores [.Tuple elts k tpos] value env = pure (some names) := by rfl) : WA w A (execs (.Assign [.Tuple elts k tpos] value pos :: rest) env) Q s := by
  refine r_seq (Assign_Tuple_swapped (WA.mono h fun v s₁ h₁ => ?_) hs hw)
  obtain ⟨t, vs, rfl, ht, hl, hq⟩ := h₁
  rw [← hl]
  refine unpackItems_tuple (items := vs.toArray) hh (by obtain ⟨n, e⟩ := ht.out; exact ⟨_, e, rfl, n, rfl⟩) fun h' he => ?_
  exact hq _ (Grow.of (t := s₁.toks) ⟨fun b o q => he b o (Nat.ne_of_lt (Heap.lt_size q)) q⟩)
theorem bn {x : Str} {v : Value} {Q : Unit → Shared → Prop} (h : WA w A (storeName env x v) Q s) : WA w A (bindName env x v) Q s := bindName_ h
theorem b_count {l : Addr} {ns : List Int} {k : Int} {Q : Value → Shared → Prop} (hl : Has s.heap l (LstN ns)) (h : ∀ t s', Grow s s' → Q (.int (ns.count k : Nat) t) s') : WA w A (call (.builtin "list.count") [.ref l, .int k t]) Q s := by
  obtain ⟨vs, iv, hl⟩ := hl.ints
  exact count_list_ints hl.listOf iv (h _ _ (Grow.tok s _))
theorem l_eq {l l' : Addr} {ns ms : List Int} {Q : Value → Shared → Prop} (hA : Ok A 10) (hl : Has s.heap l (LstN ns)) (hl' : Has s.heap l' (LstN ms)) (h : Q (.bool (decide (ns = ms))) s) : WA w A (compareOp .Eq (.ref l) (.ref l')) Q s := by
  obtain ⟨vs, iv, hl⟩ := hl.ints
  obtain ⟨us, iu, hl'⟩ := hl'.ints
  exact eq_intsK hl.listOf iv hl'.listOf iu (by have := hA.un; omega) h
theorem l_ne {l l' : Addr} {ns ms : List Int} {Q : Value → Shared → Prop} (hA : Ok A 10) (hl : Has s.heap l (LstN ns)) (hl' : Has s.heap l' (LstN ms)) (h : Q (.bool (!decide (ns = ms))) s) : WA w A (compareOp .NotEq (.ref l) (.ref l')) Q s := by
  obtain ⟨vs, iv, hl⟩ := hl.ints
  obtain ⟨us, iu, hl'⟩ := hl'.ints
  exact ne_intsK hl.listOf iv hl'.listOf iu (by have := hA.un; omega) h
theorem listN_get {l : Addr} {ns : List Int} {i : Nat} {k : Int} {Q : Value → Shared → Prop} (hl : Has s.heap l (LstN ns)) (hk : ns[i]? = some k) (hz : ns.length ≤ 900) (h : ∀ t, Q (.int k t) s) : WA w A (getItem (.ref l) (.int i t)) Q s := by
  obtain ⟨vs, iv, hl⟩ := hl.ints
  obtain ⟨t', ht⟩ := ints_get' iv hk
  have := ints_length iv
  exact l_get hl ht (by omega) (h t')
theorem inPyListN {l : Addr} {ns : List Int} {h : Heap} (T : Stat w h) (hl : Has h l (LstN ns)) : Looks (model Pr w) h (getitemInPython (.ref l)) false := by
  obtain ⟨vs, iv, hl⟩ := hl.ints
  exact inPyList T hl
theorem b_lenN {cls : Value} {d : Option Addr} {l : Addr} {ns : List Int} {Q : Value → Shared → Prop} (T : Stat w s.heap) (M : BM w cls "__len__" "list.__len__" Builtin.«list.__len__») (ho : Has s.heap l (IntsI cls d ns)) (hz : ns.length ≤ 1000) (h : ∀ t s', Grow s s' → Q (.int ns.length t) s') : WA w A (call (.builtin "len") [.ref l]) Q s := by
  obtain ⟨vs, iv, ho⟩ := ho.ints
  have e := ints_length iv
  refine b_len T M ho (by omega) fun t s' g => ?_
  rw [e]; exact h t s' g
end

-- sets of ints
def SetN (w : World) (ns : List Int) (o : Obj) : Prop := ∃ us : List Int, us.Nodup ∧ (∀ k, k ∈ us ↔ k ∈ ns) ∧ o.SetObjOf (KI w) (fun k => us.contains k) us.length
section
variable {w : World} {A : Around} {s : Shared}
theorem new_set (s : Shared) (Q : Value → Shared → Prop) (h : ∀ D s', Grow s s' → Has s'.heap D (SetN w []) → s.heap.get? D = none → Q (.ref D) s') : WA w A (newSet (.type "set")) Q s :=
  wpAny_newSet_of (knd := KI w) fun led hS => h _ _ (Grow.alloc _ _) (by
    obtain ⟨o, ho, hs⟩ := hS.objOf
    exact ⟨o, ho, [], List.nodup_nil, fun k => Iff.rfl, by simpa using hs⟩) (Heap.get?_none_of_le (Nat.le_refl _))
theorem set_add {d : Addr} {ns : List Int} {k : Int} {t : Tok} {Q : Value → Shared → Prop} (hd : Has s.heap d (SetN w ns)) (hz : ns.length ≤ 1000)
    (h : ∀ h' tk, Has h' d (SetN w (ns ++ [k])) → Heap.SameBut d s.heap h' → Q .none { s with heap := h', toks := tk }) : WA w A (call (.builtin "set.add") [.ref d, .int k t]) Q s := by
  obtain ⟨o, ho, us, hn, hm, hs⟩ := hd
  have hle : us.length ≤ ns.length := by
    have h1 : ∀ {us ns : List Int}, us.Nodup → (∀ k ∈ us, k ∈ ns) → us.length ≤ ns.length := by
      intro us
      induction us with
      | nil => intro ns _ _; exact Nat.zero_le _
      | cons a r ih =>
        intro ns h1 h2
        have hnd := List.nodup_cons.mp h1
        have ha := h2 a List.mem_cons_self
        have := ih (ns := ns.erase a) hnd.2 fun k hk => (List.mem_erase_of_ne (fun e => hnd.1 (by rw [e] at hk; exact hk))).mpr (h2 k (List.mem_cons_of_mem _ hk))
        rw [List.length_erase_of_mem ha] at this
        have := List.length_pos_of_mem ha
        rw [List.length_cons]; omega
    exact h1 hn fun k hk => (hm k).mp hk
  have hsc : (4096 : Nat) = scanBound := rfl
  refine call_set_add (knd := KI w) (k := k) (intKind_is Pr w k t) rfl (hs.setOf ho (by omega)) (by omega) fun h' hb hS' => ?_
  obtain ⟨o', ho', hs'⟩ := hS'.objOf
  refine h h' _ ⟨o', ho', ?_⟩ hb
  by_cases hk : k ∈ us
  · refine ⟨us, hn, fun j => ?_, ?_⟩
    · rw [List.mem_append, List.mem_singleton, ← hm j]
      constructor
      · exact Or.inl
      · rintro (e | rfl)
        · exact e
        · exact hk
    · rw [if_pos (by simpa using hk)] at hs'
      have e : (fun k' => us.contains k' || decide (k' = k)) = fun k' => us.contains k' := by
        funext k'
        by_cases q : k' = k
        · subst q; simp [hk]
        · simp [q]
      rw [e] at hs'; exact hs'
  · refine ⟨us ++ [k], ?_, fun j => ?_, ?_⟩
    · rw [List.nodup_append]
      exact ⟨hn, List.nodup_cons.mpr ⟨by simp, List.nodup_nil⟩, fun a ha b hb e => hk (by rw [List.mem_singleton.mp hb] at e; rw [← e]; exact ha)⟩
    · rw [List.mem_append, List.mem_append, hm j]
    · rw [if_neg (by simpa using hk)] at hs'
      rw [List.length_append]
      have e : (fun k' => us.contains k' || decide (k' = k)) = fun k' => (us ++ [k]).contains k' := by
        funext k'
        simp
      rw [e] at hs'; exact hs'
/-- how many there are -/
def card (ns : List Int) : Nat := ns.eraseDups.length
end
end Mine
end

section
open PySem PySem.W PySem.Calls PyProof.Rows
namespace Mine

section
variable {w : World} {A : Around} {s : Shared} {env : Env}

/-- what a comprehension over n items wants; R says which items have been gathered -/
structure CompIn (w : World) (A : Around) (cenv : Addr → Env) (target elt : Expr) (ifs : List Expr) (φ : List Value → Obj → Prop) (s₁ : Shared) (n : Nat) (val : Nat → Value → Prop) (src : Heap → Prop) (R : Nat → List Value → Prop) : Prop where
  start : R 0 []
  src : ∀ h, Sub s₁.heap h → src h
  turn : ∀ i vs v C D P s, i < n → R i vs → val i v → St ⟨s₁.heap, C, [], s₁⟩ P [] [] (listS [(D, φ vs)]) s →
    WA w A (assign target (cenv C) v) (fun _ s₂ => WA w A (tests ifs (cenv C)) (fun ok s₃ =>
      if ok = true then WA w A (eval elt (cenv C)) (fun y s₄ => R (i + 1) (vs ++ [y]) ∧ ∃ m cm, St ⟨s₁.heap, C, [], s₁⟩ P m cm (listS [(D, φ vs)]) s₄) s₃
      else R (i + 1) vs ∧ ∃ m cm, St ⟨s₁.heap, C, [], s₁⟩ P m cm (listS [(D, φ vs)]) s₃) s₂) s

theorem comp_loop {elt target iter : Expr} {ifs : List Expr} {scope : Scope} {pos : Pos} {cl : List (Str × Addr)} {s₁ : Shared} {n : Nat} {val : Nat → Value → Prop} {src : Heap → Prop} {R : Nat → List Value → Prop}
    (K : CompIn w A (fun C => compEnvC scope cl C env) target elt ifs LstI s₁ n val src R) (T : Stat w s₁.heap) (hR : ∀ i vs, R i vs → vs.length ≤ 800) {C D I : Addr} {φ : Nat → Obj → Prop} {s : Shared} (X' : It w A I n val φ src)
    (X : St ⟨s₁.heap, C, [], s₁⟩ ([] ++ [(I, φ 0)]) [] [] (listS [(D, LstI [])]) s) :
    codeAny (model Pr w) A (.compLoop (.ListComp elt [⟨target, iter, ifs, 0⟩] scope pos) 0 (.ref I) (.ref D) (compEnvC scope cl C env))
      (fun r s' => (∃ f, r = .ok f) ∧ ∃ P m cm S, St ⟨s₁.heap, C, [], s₁⟩ P m cm S s' ∧ ∃ vs, R n vs ∧ S = listS [(D, LstI vs)]) s := by
  refine r_cloop (ifs := ifs) (target := target) (emit := do let _ ← call (.builtin "list.append") [.ref D, ← eval elt (compEnvC scope cl C env)]) X' (fun i m cm S => ∃ vs, R i vs ∧ m = [] ∧ cm = [] ∧ S = listS [(D, LstI vs)]) ⟨[], K.start, rfl, rfl, rfl⟩ X (fun i P' m cm S s _ Y => K.src _ Y.chg.sub) (fun i ψ m cm S s v hi hv hval S3 => ?_) fun m cm S s hv S3 => ?_
  · obtain ⟨vs, hr, rfl, rfl, rfl⟩ := hv
    refine WA.mono (K.turn i vs v C D _ s hi hr hval S3) fun _ s₂ h₂ => WA.mono h₂ fun ok s₃ h₃ => ?_
    cases ok with
    | true =>
      rw [if_pos rfl] at h₃ ⊢
      refine em_list (WA.mono h₃ fun y s₄ h₄ => ?_)
      obtain ⟨hr', m, cm, S4⟩ := h₄
      refine b_append (S4.stat T) (S4.at (l := 0) rfl) (by have := hR _ _ hr; omega) fun h' h1 h2 => ?_
      have S5 := (S4.set (l := 0) (t := s₄.toks) rfl h1 h2).sto (S' := listS [(D, LstI (vs ++ [y]))]) listS_set0
      exact ⟨_, _, _, ⟨_, hr', rfl, rfl, rfl⟩, S5.weaken (m' := []) (cm' := []) (fun x v e => by cases e) (fun x v e => by cases e) fun l a φ' e => ⟨φ', e, fun _ q => q⟩⟩
    | false =>
      rw [if_neg (by decide)] at h₃ ⊢
      obtain ⟨hr', m, cm, S4⟩ := h₃
      exact ⟨_, _, _, ⟨_, hr', rfl, rfl, rfl⟩, S4.weaken (m' := []) (cm' := []) (fun x v e => by cases e) (fun x v e => by cases e) fun l a φ' e => ⟨φ', e, fun _ q => q⟩⟩
  · obtain ⟨vs, hr, rfl, rfl, rfl⟩ := hv
    exact ⟨⟨_, rfl⟩, _, _, _, _, S3, vs, hr, rfl⟩

theorem r_compG {elt target iter : Expr} {ifs : List Expr} {scope : Scope} {pos : Pos} {cl : List (Str × Addr)} {Q : Value → Shared → Prop} (R : Nat → List Value → Prop) (hR : ∀ i vs, R i vs → vs.length ≤ 800)
    (h : WA w A (eval iter env) (fun xv s₁ => ∃ n val src, Itb w A xv s₁ n val src ∧ Stat w s₁.heap ∧ CompIn w A (fun C => compEnvC scope cl C env) target elt ifs LstI s₁ n val src R ∧
      ∀ D vs s', R n vs → Grow s₁ s' → Has s'.heap D (LstI vs) → s₁.heap.get? D = none → Q (.ref D) s') s)
    (hclos : closureFor scope env = pure cl := by with_unfolding_all rfl) (hcell : ∀ y ∈ scope.names, y.2 ≠ .cell := by decide) (hkind : scope.kind = .function := by rfl)
    (hnames : ∀ x ∈ scope.names, x.2 = .local → scope.names.lookup x.1 = some .local := by decide)
    (hs : ∀ x, foldedSetIterable iter env x = pure x := by intro _; rfl) :
    WA w A (eval (.ListComp elt [⟨target, iter, ifs, 0⟩] scope pos) env) Q s := by
  refine r_comp (WA.mono h fun xv s₁ h₁ => ?_) hclos hcell hkind hnames hs
  obtain ⟨n, val, src, B, T, K, out⟩ := h₁
  refine ⟨n, val, src, fun D S => ∃ vs, R n vs ∧ S = listS [(D, LstI vs)], B, fun C D I φ s X' X => comp_loop K T hR X' X, fun D S s' M hf => ?_⟩
  obtain ⟨vs, hr, rfl⟩ := hf
  have := M.led.has 0 _ _ rfl
  exact out D vs s' hr M.grow this.1 this.2

theorem r_assignCompG {ι : Type} [DecidableEq ι] {elt target iter : Expr} {ifs : List Expr} {scope : Scope} {pos spos py : Pos} {y : Str} {cl : List (Str × Addr)} {rs : List Stmt} {Q : Flow → Shared → Prop} (R : Nat → List Value → Prop) (hR : ∀ i vs, R i vs → vs.length ≤ 800) (lab : ι)
    (h : WA w A (eval iter env) (fun xv s₁ => ∃ n val src, Itb w A xv s₁ n val src ∧ Stat w s₁.heap ∧ CompIn w A (fun C => compEnvC scope cl C env) target elt ifs LstI s₁ n val src R ∧
      ∃ (c : Cx) (P : List (Addr × (Obj → Prop))) (m cm : Loc) (S : Sto ι), env.locals = c.L ∧ St c P m cm S s₁ ∧
        ∀ D vs s'', R n vs → St c P ((y, .ref D) :: m) cm (updS S lab (D, LstI vs)) s'' → WA w A (execs rs env) Q s'') s)
    (hsw : swapsWith (.ListComp elt [⟨target, iter, ifs, 0⟩] scope pos) (some (.Name y py)) spos.line env = pure true := by with_unfolding_all rfl)
    (hclos : closureFor scope env = pure cl := by with_unfolding_all rfl) (hcell : ∀ y ∈ scope.names, y.2 ≠ .cell := by decide) (hkind : scope.kind = .function := by rfl)
    (hnames : ∀ x ∈ scope.names, x.2 = .local → scope.names.lookup x.1 = some .local := by decide)
    (hk : env.scope.kind = .function := by rfl) (hl : env.kindOf y = some .local := by rfl)
    (hs : ∀ x, foldedSetIterable iter env x = pure x := by intro _; rfl) :
    WA w A (execs (.Assign [.Name y py] (.ListComp elt [⟨target, iter, ifs, 0⟩] scope pos) spos :: rs) env) Q s := by
  refine r_assignComp (ι := ι) (WA.mono h fun xv s₁ h₁ => ?_) hsw hclos hcell hkind hnames hk hl hs
  obtain ⟨n, val, src, B, T, K, c, P, m, cm, S, hL, X, out⟩ := h₁
  refine ⟨n, val, src, fun D S => ∃ vs, R n vs ∧ S = listS [(D, LstI vs)], B, fun C D I φ s X' X => comp_loop K T hR X' X, c, P, m, cm, S, hL, X, fun D S' hf => ?_⟩
  obtain ⟨vs, hr, rfl⟩ := hf
  exact ⟨updS S lab (D, LstI vs), Mrg.upd, fun s'' X2 => out D vs s'' hr X2⟩
end
end Mine
end

section
open PySem PySem.W PySem.Calls PyProof.Rows
namespace Mine

def pairN : Nat → Nat × Nat
  | 0 => (0, 1)
  | 1 => (0, 2)
  | 2 => (0, 3)
  | 3 => (1, 2)
  | 4 => (1, 3)
  | _ => (2, 3)
theorem pairN_lt (q : Nat) : (pairN q).1 < 4 ∧ (pairN q).2 < 4 := by
  match q with
  | 0 => decide
  | 1 => decide
  | 2 => decide
  | 3 => decide
  | 4 => decide
  | n + 5 =>
    show (2 : Nat) < 4 ∧ (3 : Nat) < 4
    decide
def relab (a b : Nat) (l : List Nat) : List Nat := l.map fun x => if x = b then a else x
def rkStep (st : List Nat × Nat) (q : Nat) : List Nat × Nat :=
  if st.1.getD (pairN q).1 0 = st.1.getD (pairN q).2 0 then st else (relab (st.1.getD (pairN q).1 0) (st.1.getD (pairN q).2 0) st.1, st.2 + 1)
def rankP (qs : List Nat) : List Nat × Nat := qs.foldl rkStep ([0, 1, 2, 3], 0)
def rank (qs : List Nat) : Nat := (rankP qs).2
theorem rankP_snoc (qs : List Nat) (q : Nat) : rankP (qs ++ [q]) = rkStep (rankP qs) q := by simp [rankP]
theorem rkStep_len (st : List Nat × Nat) (q : Nat) : (rkStep st q).1.length = st.1.length := by
  unfold rkStep
  split
  · rfl
  · simp [relab]
theorem rankP_len (qs : List Nat) : (rankP qs).1.length = 4 := by
  have : ∀ (qs : List Nat) (st : List Nat × Nat), (qs.foldl rkStep st).1.length = st.1.length := by
    intro qs
    induction qs with
    | nil => intro st; rfl
    | cons q r ih => intro st; rw [List.foldl_cons, ih, rkStep_len]
  exact this qs _
abbrev roadsV (rds : List Nat) : List Value := rds.map fun q => Value.ref (403 + q)

section
variable {w : World} {A : Around} {s : Shared} {g : Heap}
theorem pairTup {h : Heap} (T : Stat w h) {q : Nat} (hq : q < 6) : ∃ ta tb, Has h (403 + q) (TupI [.int ((pairN q).1 : Int) ta, .int ((pairN q).2 : Int) tb]) := by
  match q, hq with
  | 0, _ => exact ⟨_, _, _, T.K 403 _ (by exact rfl), 0, rfl⟩
  | 1, _ => exact ⟨_, _, _, T.K 404 _ (by exact rfl), 0, rfl⟩
  | 2, _ => exact ⟨_, _, _, T.K 405 _ (by exact rfl), 0, rfl⟩
  | 3, _ => exact ⟨_, _, _, T.K 406 _ (by exact rfl), 0, rfl⟩
  | 4, _ => exact ⟨_, _, _, T.K 407 _ (by exact rfl), 0, rfl⟩
  | 5, _ => exact ⟨_, _, _, T.K 408 _ (by exact rfl), 0, rfl⟩
  | n + 6, h => omega

theorem rank_spec {ra ca : Addr} {rds chosen : List Nat} {Q : Value → Shared → Prop} (hA : Ok A 4) (hg : Sub g s.heap) (T : Stat w g) (gr : Has g ra (LstI (roadsV rds))) (gc : Has g ca (LstN (natsV chosen)))
    (h6 : ∀ q ∈ rds, q < 6) (hc : ∀ k ∈ chosen, k < rds.length) (z1 : rds.length ≤ 6) (z2 : chosen.length ≤ 100)
    (h : ∀ s' t, Chg g s s' → Q (.int (rank (chosen.map fun k => rds.getD k 0)) t) s') :
    codeAny (model Pr w) A (.call (.ref 414) ⟨[.ref ra, .ref ca], []⟩) (Rv Q) s := by
  obtain ⟨vc, ivc, gc'⟩ := gc.ints
  have lvc := ints_length ivc
  rw [List.length_map] at lvc
  refine r_enterCell (S := noS) (m := lo [("roads", .ref ra), ("chosen", .ref ca)]) (cm := []) (binds := [("roads", .ref ra), ("chosen", .ref ca)]) (by exact rfl) hA.room hg T (by kernel_rfl) (by rfl) (fun L x hx => ?_) (Led.nil _ _) (fun L x v e => ?_) (fun L x v e => by cases e) fun Lc s₂ S => ?_
  · simp only [List.mem_cons, List.not_mem_nil, or_false] at hx
    rcases hx with rfl | rfl <;> exact .inl rfl
  · have e' := mem_of_lookup e
    simp only [List.mem_cons, List.not_mem_nil, or_false] at e'
    rcases e' with e' | e' <;> (cases e'; rfl)
  refine r_assignSw hA.hd (r_tuple (args_cons (r_list (args_cons (r_int fun t0 s' g' => args_cons (r_int fun t1 s'' g'' => args_cons (r_int fun t2 s3 g3 => args_cons (r_int fun t3 s4 g4 => args_nil ⟨by simp, fun lb s5 g5 hlb hlf => ?_⟩))))))))
  have S := ((((S.grow g').grow g'').grow g3).grow g4).new g5 (l := 0) (hlb.ofInts (.cons 0 t0 (.cons 1 t1 (.cons 2 t2 (.cons 3 t3 .nil))))) hlf
  refine args_cons (r_int fun t6 s6 g6 => args_nil ⟨by simp, fun t s7 g7 ht htf => ⟨t, _, rfl, ht, rfl, fun s8 g8 => ?_⟩⟩)
  have S := ((S.grow g6).grow g7).grow g8
  refine ao_cons (bn (r_store S fun s' S => ao_cons (bn (r_store S fun s' S => ao_nil ?_))))
  refine r_for (r_local S rfl (.mk (ι := Nat) (fun i m cm S => ∃ lb t, m = lo [("labels", .ref lb), ("rank", .int ((rankP ((chosen.take i).map fun k => rds.getD k 0)).2 : Nat) t), ("roads", .ref ra), ("chosen", .ref ca)] ∧ cm = [] ∧
      S = updS noS 0 (lb, LstN (natsV (rankP ((chosen.take i).map fun k => rds.getD k 0)).1)))
    (itb_list hA.hd (S.baseH gc')) ⟨_, _, _, ⟨lb, t6, rfl, rfl, rfl⟩, S.fit⟩ (fun i P' m cm S s hi X => X.baseH gc') (fun i I ψ m cm S s v hi hv hval S => ?_) fun m cm S s hv S => ?_))
  · obtain ⟨lb, t, rfl, rfl, rfl⟩ := hv
    obtain ⟨k, tk, hk, rfl⟩ := vars_get ivc hval
    have hkl := hc k (List.mem_of_getElem? hk)
    obtain ⟨q, hq⟩ : ∃ q, rds[k]? = some q := ⟨_, List.getElem?_eq_getElem hkl⟩
    have hq6 := h6 q (List.mem_of_getElem? hq)
    have hD : rds.getD k 0 = q := by rw [List.getD_eq_getElem?_getD, hq]; rfl
    rw [take_snoc hk, List.map_append, List.map_cons, List.map_nil, rankP_snoc, hD]
    generalize hst : rankP ((chosen.take i).map fun k => rds.getD k 0) = st at S ⊢
    have hlen : st.1.length = 4 := by rw [← hst]; exact rankP_len _
    have hab := pairN_lt q
    generalize hpa : (pairN q).1 = pa at hab
    generalize hpb : (pairN q).2 = pb at hab
    have ga : st.1[pa]? = some (st.1.getD pa 0) := by
      rw [List.getD_eq_getElem?_getD, List.getElem?_eq_getElem (by omega)]; rfl
    have gb : st.1[pb]? = some (st.1.getD pb 0) := by
      rw [List.getD_eq_getElem?_getD, List.getElem?_eq_getElem (by omega)]; rfl
    have hstep : rkStep st q = if st.1.getD pa 0 = st.1.getD pb 0 then st else (relab (st.1.getD pa 0) (st.1.getD pb 0) st.1, st.2 + 1) := by unfold rkStep; rw [hpa, hpb]
    generalize st.1.getD pa 0 = xa at ga hstep
    generalize st.1.getD pb 0 = xb at gb hstep
    have hroad : (roadsV rds)[k]? = some (.ref (403 + q)) := by rw [List.getElem?_map, hq]; rfl
    refine a_name (r_store S fun s S => ?_)
    obtain ⟨ta, tb, hpt⟩ := pairTup T hq6
    rw [hpa, hpb] at hpt
    refine r_assignTup (r_tuple (args_cons (r_sub (r_local S rfl (r_sub (r_sub (r_local S rfl (r_local S rfl ⟨inPyList (S.stat T) (S.baseH gr), l_get (S.baseH gr) hroad (by rw [List.length_map]; omega) ?_⟩))))))))
    refine r_int fun t1 s' g' => ?_
    have S := S.grow g'
    refine ⟨inPyTup (S.baseH hpt), t_get (k := 0) (S.baseH hpt) (by decide) (by decide) (by rfl) rfl ?_⟩
    refine ⟨inPyListN (S.stat T) (S.at (l := 0) rfl), listN_get (S.at (l := 0) rfl) (by rw [List.getElem?_map, ga]; rfl) (by simp; omega) fun t2 => ?_⟩
    refine args_cons (r_sub (r_local S rfl (r_sub (r_sub (r_local S rfl (r_local S rfl ⟨inPyList (S.stat T) (S.baseH gr), l_get (S.baseH gr) hroad (by rw [List.length_map]; omega) ?_⟩))))))
    refine r_int fun t3 s' g' => ?_
    have S := S.grow g'
    refine ⟨inPyTup (S.baseH hpt), t_get (k := 1) (S.baseH hpt) (by decide) (by decide) (by rfl) rfl ?_⟩
    refine ⟨inPyListN (S.stat T) (S.at (l := 0) rfl), listN_get (S.at (l := 0) rfl) (by rw [List.getElem?_map, gb]; rfl) (by simp; omega) fun t4 => ?_⟩
    refine args_nil ⟨by simp, fun tt s' g' htt httf => ?_⟩
    have S := S.grow g'
    refine a_tup hA.hd htt fun s' g' => ?_
    have S := S.grow g'
    refine ao_cons (a_name (r_storeCell S fun s' S => ao_cons (a_name (r_storeCell S fun s' S => ao_nil ?_))))
    refine r_if (t_cmp (r_cell S rfl (r_cell S rfl (P.ne_int (tr_bool ?_)))))
    by_cases hab' : xa = xb
    · rw [if_neg (by simp [hab'])]
      rw [hstep, if_pos hab']
      exact r_nil (k_next (r_nil ⟨_, _, _, ⟨lb, t, rfl, rfl, rfl⟩, S.fit2⟩))
    · rw [if_pos (by simp; omega)]
      rw [hstep, if_neg hab']
      obtain ⟨vl, ivl, hvl⟩ := (S.at (l := 0) (by rfl)).ints
      have lvl := ints_length ivl
      rw [List.length_map] at lvl
      refine r_assignCompG (ι := Nat) (fun i vs => IntsAre vs (natsV ((relab xa xb st.1).take i))) (fun i vs hr => by have := ints_length hr; simp [relab] at this; omega) 0
        (r_local S rfl ⟨_, _, _, itb_list hA.hd hvl, S.stat T, ⟨by simpa using IntsAre.nil, fun h k => hvl.mono k, fun i vs v C D P' s3 hi hr hval3 X3 => ?_⟩, _, _, _, _, _, rfl, S, fun D vs s'' hr S => ?_⟩)
      · obtain ⟨x, tx, hx, rfl⟩ := vars_get ivl hval3
        refine a_name (r_store X3 fun s4 X4 => te_nil ?_)
        rw [if_pos rfl]
        have hnext : (relab xa xb st.1).take (i + 1) = (relab xa xb st.1).take i ++ [if x = xb then xa else x] :=
          take_snoc (by unfold relab; rw [List.getElem?_map, hx]; rfl)
        refine r_ifx (t_cmp (r_local X4 rfl (r_capt S X4.chg.sub rfl (P.eq_int (tr_bool ?_)))))
        by_cases hxe : x = xb
        · rw [if_pos (by simp [hxe])]
          refine r_capt S X4.chg.sub rfl ⟨?_, _, _, X4⟩
          rw [hnext, if_pos hxe]
          simpa using ints_snoc hr
        · rw [if_neg (by simp; omega)]
          refine r_local X4 rfl ⟨?_, _, _, X4⟩
          rw [hnext, if_neg hxe]
          simpa using ints_snoc hr
      · rw [List.take_of_length_le (by unfold relab; simp; omega)] at hr
        refine r_assign (r_bin (r_local S rfl (r_int fun t7 s' g' => i_add fun t8 s'' g'' => ?_)))
        have S := (S.grow g').grow g''
        refine r_store S fun s' S => ?_
        refine r_nil (k_next (r_nil ⟨_, _, _, ⟨D, t8, rfl, rfl, rfl⟩, ?_⟩))
        refine (S.fit2 (m' := lo [("labels", .ref D), ("rank", .int ((st.2 + 1 : Nat) : Int) t8), ("roads", .ref ra), ("chosen", .ref ca)])).weaken (fun _ _ e => e) (fun _ _ e => by cases e) fun l a φ' e => ?_
        unfold updS at e
        by_cases hl : l = 0
        · subst hl
          rw [if_pos rfl] at e; cases e
          exact ⟨_, rfl, fun o ho => ⟨vs, hr, ho⟩⟩
        · rw [if_neg hl] at e; cases e
  · obtain ⟨lb, t, rfl, rfl, rfl⟩ := hv
    rw [List.take_of_length_le (by omega)] at S
    exact r_nil (k_next (r_ret (r_local S rfl (h _ _ S.chg))))
end
end Mine
end

section
open PySem PySem.W PySem.Calls PyProof.Rows
namespace Mine

section
variable {w : World} {A : Around} {s : Shared} {env : Env}
/-- list(range(n)) -/
theorem b_listRange {r : Addr} {n : Nat} {Q : Value → Shared → Prop} (hh : A.handled = none) (hr : Has s.heap r (RngI n)) (hz : n ≤ 900)
    (h : ∀ l s', Grow s s' → Has s'.heap l (LstN (natsV (List.range n))) → s.heap.get? l = none → Q (.ref l) s') : WA w A (call (.type "list") [.ref r]) Q s := by
  obtain ⟨_, hr, t, u, v, rfl⟩ := hr
  refine call_list_range (n := n) (a := 0) (b := n) (c := 1) hh hr ?_ (rng_size n) (by omega) fun h' tk acc' c' hk hl hi => ?_
  · unfold Builtin.Range.small
    rw [rng_size]
    simp [Builtin.Range.rangeFitsLong]
    omega
  refine h _ _ ⟨⟨hk⟩, .refl _, rfl, rfl⟩ ?_ (Heap.get?_none_of_le (Nat.le_refl _))
  have iv : IntsAre acc'.toList (natsV (List.range n)) := intsOf (by rw [Array.length_toList, hi.1]; simp) fun i v hv => by
    have hin : i < n := by
      have := (List.getElem?_eq_some_iff.mp hv).1
      rw [Array.length_toList, hi.1] at this; exact this
    obtain ⟨t, rfl⟩ := hi.2 i v (by rw [← Array.getElem?_toList]; exact hv)
    exact ⟨(0 : Int) + i * 1, t, by simp [hin], rfl⟩
  exact Has.ofInts iv (Has.seq (n := c') hl)
end

/-- the constraints' list, and a bag of objects that do not change -/
def bagE (cl : Addr) (tas : List Addr) (bag : List (Addr × (Obj → Prop))) : Sto Lab := fun l => if l = (12, 0) then some (cl, LstI (tas.map Value.ref)) else if l.1 = 13 then bag[l.2]? else none
section
variable {w : World} {D : Nat → DA} {n : Nat} {Z : DSt} {X : Sto Lab} {c : Cx} {P : List (Addr × (Obj → Prop))} {m cm : Loc} {s s' : Shared} {cl : Addr} {tas : List Addr} {bag : List (Addr × (Obj → Prop))}
theorem bag_at {a : Addr} {φ : Obj → Prop} {j : Nat} (h : bag[j]? = some (a, φ)) : bagE cl tas bag (13, j) = some (a, φ) := by
  unfold bagE
  rw [if_neg (by intro z; cases z), if_pos rfl]; exact h
theorem bag_new {a : Addr} {φ : Obj → Prop} : ∀ l' q, bagE cl tas (bag ++ [(a, φ)]) l' = some q → (l' = (13, bag.length) ∧ q = (a, φ)) ∨ (l' ≠ (13, bag.length) ∧ bagE cl tas bag l' = some q) := by
  intro l' q e
  unfold bagE at e ⊢
  by_cases z : l' = (12, 0)
  · rw [if_pos z] at e
    exact .inr ⟨(by rw [z]; intro y; cases y), by rw [if_pos z]; exact e⟩
  · rw [if_neg z] at e
    by_cases z1 : l'.1 = 13
    · rw [if_pos z1] at e
      by_cases z2 : l'.2 = bag.length
      · left
        rw [z2, List.getElem?_append_right (Nat.le_refl _), Nat.sub_self] at e
        cases e
        exact ⟨Prod.ext z1 z2, rfl⟩
      · right
        refine ⟨fun y => z2 (by rw [y]), ?_⟩
        rw [if_neg z, if_pos z1]
        have hlt : l'.2 < bag.length := by
          have := (List.getElem?_eq_some_iff.mp e).1
          rw [List.length_append, List.length_singleton] at this
          omega
        rwa [List.getElem?_append_left hlt] at e
    · rw [if_neg z1] at e; cases e
theorem St.bagNew (Y : St c P m cm (cS D n Z (addE (bagE cl tas bag) X)) s) (G : Grow s s') {a : Addr} {φ : Obj → Prop} (hh : Has s'.heap a φ) (hf : s.heap.get? a = none) : St c P m cm (cS D n Z (addE (bagE cl tas (bag ++ [(a, φ)])) X)) s' :=
  Y.newA G (13, bag.length) hh hf bag_new (by show 3 ≤ 13; decide) (by show 13 < 30; decide)
theorem St.bagAt (Y : St c P m cm (cS D n Z (addE (bagE cl tas bag) X)) s) {a : Addr} {φ : Obj → Prop} (h : (a, φ) ∈ bag) : Has s.heap a φ := by
  obtain ⟨j, hj⟩ := List.getElem?_of_mem h
  exact Y.atA (bag_at hj) (by show 3 ≤ 13; decide) (by show 13 < 30; decide)
theorem St.bagTwo (Y : St c P m cm (cS D n Z (addE (bagE cl tas bag) X)) s) (G : Grow s s') {a b : Addr} {φ ψ : Obj → Prop} (ha : Has s'.heap a φ) (hb : Has s'.heap b ψ) (fa : s.heap.get? a = none) (fb : s.heap.get? b = none) (ne : a ≠ b) :
    St c P m cm (cS D n Z (addE (bagE cl tas (bag ++ [(a, φ)] ++ [(b, ψ)])) X)) s' := by
  refine Y.merge (made2 G ha hb fa fb ne) ⟨fun j => (13, bag.length + j), fun l' x χ e => ?_⟩
  unfold cS at e
  by_cases q : l'.1 < 3
  · rw [if_pos q] at e
    left; unfold cS; rw [if_pos q]; exact e
  · rw [if_neg q] at e
    unfold addE at e
    by_cases q2 : l'.1 < 30
    · rw [if_pos q2] at e
      rcases bag_new _ _ e with ⟨h1, h2⟩ | ⟨_, e⟩
      · rw [List.length_append, List.length_singleton] at h1
        cases h2
        exact .inr ⟨1, h1, rfl⟩
      · rcases bag_new _ _ e with ⟨h1, h2⟩ | ⟨_, e⟩
        · cases h2
          exact .inr ⟨0, h1, rfl⟩
        · left
          unfold cS addE; rw [if_neg q, if_pos q2]; exact e
    · rw [if_neg q2] at e
      left
      unfold cS addE; rw [if_neg q, if_neg q2]; exact e
/-- a constraint is added -/
theorem bag_over {Z' : DSt} {ta : Addr} {φ : Obj → Prop} : ∀ l p, cS D n Z (addE (bagE cl (tas ++ [ta]) (bag ++ [(ta, φ)])) X) l = some p →
    over2 (fun l : Lab => if l = (12, 0) then some (cl, LstI (tas.map Value.ref)) else none) (fun l : Lab => if l = (12, 0) then some (cl, LstI (tas.map Value.ref ++ [.ref ta])) else if l = (13, bag.length) then some (ta, φ) else none) (cS D n Z (addE (bagE cl tas bag) X)) l = some p := by
  intro l p e
  by_cases z : l = (12, 0)
  · subst z
    refine over2_new ?_
    rw [if_pos rfl]
    have : some (cl, LstI ((tas ++ [ta]).map Value.ref)) = some p := e
    rw [← this, List.map_append]; rfl
  · by_cases z1 : l = (13, bag.length)
    · subst z1
      refine over2_new ?_
      rw [if_neg (by intro y; cases y), if_pos rfl]
      have : (bag ++ [(ta, φ)])[bag.length]? = some p := e
      rw [List.getElem?_append_right (Nat.le_refl _), Nat.sub_self] at this
      exact this
    · refine over2_old (by rw [if_neg z, if_neg z1]) (by rw [if_neg z]) ?_
      unfold cS at e ⊢
      by_cases q : l.1 < 3
      · rw [if_pos q] at e ⊢; exact e
      · rw [if_neg q] at e ⊢
        unfold addE at e ⊢
        by_cases q2 : l.1 < 30
        · rw [if_pos q2] at e ⊢
          have e2 : bagE cl tas (bag ++ [(ta, φ)]) l = some p := by
            unfold bagE at e ⊢
            rw [if_neg z] at e ⊢; exact e
          rcases bag_new _ _ e2 with ⟨h1, _⟩ | ⟨_, e3⟩
          · exact absurd h1 z1
          · exact e3
        · rw [if_neg q2] at e ⊢; exact e
end

/-- sound wherever the bag's objects stand -/
def PB (w : World) (bag : List (Addr × (Obj → Prop))) (g : Heap) (n : Nat) (p : PreC) : Prop := ∀ g', Sub g g' → (∀ q ∈ bag, Has g' q.1 q.2) → PreOk w g' n p
theorem PB.mono {w : World} {bag bag' : List (Addr × (Obj → Prop))} {g : Heap} {n : Nat} {p : PreC} (h : PB w bag g n p) (k : ∀ q ∈ bag, q ∈ bag') : PB w bag' g n p := fun g' a b => h g' a fun q hq => b q (k q hq)
def rowOf (n : Nat) (cols : List Nat) (c : Nat) : List Nat := (List.range n).filter fun k => cols.getD k 0 == c
/-- what a choice is -/
def Sat (n : Nat) (cols : List Nat) (rings : List (List Nat)) (cnt : Nat) (σ : Nat → Int) : Prop :=
  In01 n σ ∧ (∀ c, c < 3 → sumBy σ (rowOf n cols c) ≤ 1) ∧ (∀ r ∈ rings, 1 ≤ sumBy (ind [0] σ) r) ∧ (cnt : Int) ≤ sumBy (ind [1] σ) (List.range n)

theorem ng_Problem {w : World} : nsIn (Kf w) mainGlobals "Problem" = some (some (.ref 110)) := by kernel_rfl
theorem ng_Max {w : World} : nsIn (Kf w) mainGlobals "MaxSumConstraint" = some (some (.ref 371)) := by kernel_rfl
theorem ng_Some {w : World} : nsIn (Kf w) mainGlobals "SomeInSetConstraint" = some (some (.ref 399)) := by kernel_rfl
theorem nb_range {w : World} : nsIn (Kf w) mainGlobals "range" = some none := by kernel_rfl
theorem bt_range : bootBuiltins "range" = some (.type "range") := by kernel_rfl
theorem fi_addVars {w : World} : findIn (Kf w) (.ref 110) "addVariables" = some (some (.ref 71)) := by kernel_rfl
theorem ty_71 {w : World} : typeIn (Kf w) (.ref 71) = some (.type "function") := by kernel_rfl
theorem fi_addCon {w : World} : findIn (Kf w) (.ref 110) "addConstraint" = some (some (.ref 79)) := by kernel_rfl
theorem ty_79 {w : World} : typeIn (Kf w) (.ref 79) = some (.type "function") := by kernel_rfl
theorem fi_getSol {w : World} : findIn (Kf w) (.ref 110) "getSolution" = some (some (.ref 86)) := by kernel_rfl
theorem ty_86 {w : World} : typeIn (Kf w) (.ref 86) = some (.type "function") := by kernel_rfl
theorem lk_addVars {w : World} (q : Nat × Nat × Nat × Nat) (slv cl vd : Addr) : lookIn "addVariables" (dictOf [attrE w "_solver" q.1 (.ref slv), attrE w "_constraints" q.2.1 (.ref cl), attrE w "_variables" q.2.2.1 (.ref vd)] q.2.2.2) = some none := by kernel_rfl
theorem lk_addCon {w : World} (q : Nat × Nat × Nat × Nat) (slv cl vd : Addr) : lookIn "addConstraint" (dictOf [attrE w "_solver" q.1 (.ref slv), attrE w "_constraints" q.2.1 (.ref cl), attrE w "_variables" q.2.2.1 (.ref vd)] q.2.2.2) = some none := by kernel_rfl
theorem lk_getSol {w : World} (q : Nat × Nat × Nat × Nat) (slv cl vd : Addr) : lookIn "getSolution" (dictOf [attrE w "_solver" q.1 (.ref slv), attrE w "_constraints" q.2.1 (.ref cl), attrE w "_variables" q.2.2.1 (.ref vd)] q.2.2.2) = some none := by kernel_rfl
end Mine
end

section
open PySem PySem.W PySem.Calls PyProof.Rows
namespace Mine
section
variable {w : World} {A : Around} {s : Shared} {D : Nat → DA} {n : Nat} {Z : DSt} {X : Sto Lab} {c : Cx} {P : List (Addr × (Obj → Prop))} {m cm : Loc} {cl : Addr} {tas : List Addr} {bag : List (Addr × (Obj → Prop))}
theorem bag_upd {a : Addr} {φ φ' : Obj → Prop} (Y : St c P m cm (updS (cS D n Z (addE (bagE cl tas bag) X)) (13, bag.length) (a, φ)) s) (h : ∀ o, φ o → φ' o) : St c P m cm (cS D n Z (addE (bagE cl tas (bag ++ [(a, φ')])) X)) s := by
  refine Y.weaken (fun _ _ e => e) (fun _ _ e => e) fun l b χ e => ?_
  unfold updS
  by_cases z : l = (13, bag.length)
  · subst z
    have : (bag ++ [(a, φ')])[bag.length]? = some (b, χ) := e
    rw [List.getElem?_append_right (Nat.le_refl _), Nat.sub_self] at this
    cases this
    exact ⟨φ, if_pos rfl, h⟩
  · refine ⟨χ, ?_, fun _ q => q⟩
    rw [if_neg z]
    unfold cS at e ⊢
    by_cases q : l.1 < 3
    · rw [if_pos q] at e ⊢; exact e
    · rw [if_neg q] at e ⊢
      unfold addE at e ⊢
      by_cases q2 : l.1 < 30
      · rw [if_pos q2] at e ⊢
        rcases bag_new _ _ e with ⟨h1, _⟩ | ⟨_, e3⟩
        · exact absurd h1 z
        · exact e3
      · rw [if_neg q2] at e ⊢; exact e

theorem bag_add {pb pd slv vd x C dx : Addr} {vv : Value} {args : List Value} {Q : Value → Shared → Prop} (hA : Ok A 8) (S : St c P m cm (cS D n Z (addE (bagE cl tas bag) X)) s) (T : Stat w c.g) (gp : c.g.get? pb = some (instObj 110 pd)) (gpd : Has c.g pd (ProbD w slv cl vd))
    (hx : (x, fun o => o = instObj C dx) ∈ bag) (hC : isIn (Kf w) (.ref C) 308 = true) (hz : tas.length ≤ 700) (hargs : args = [.ref pb, .ref x, vv] ∨ (args = [.ref pb, .ref x] ∧ vv = .none))
    (h : ∀ s' ta, St c P m cm (cS D n Z (addE (bagE cl (tas ++ [ta]) (bag ++ [(ta, TupI [.ref x, vv])])) X)) s' → Q .none s') : WA w A (call (.ref 79) args) Q s := by
  obtain ⟨g', h1, h2, h3, h4, h5⟩ := S.call2 (Sc := fun l => if l = (12, 0) then some (cl, LstI (tas.map Value.ref)) else none) (fun l p e => by
    by_cases z : l = (12, 0)
    · subst z; exact e
    · rw [if_neg z] at e; cases e)
  have L2 : Led g' s.heap (listS [(cl, LstI (tas.map Value.ref))]) := Led.list (fun p hp => by rw [List.mem_singleton] at hp; subst hp; exact h3.has (12, 0) _ _ rfl) (by simp)
  obtain ⟨j, hj⟩ := List.getElem?_of_mem hx
  obtain ⟨_, gx, rfl⟩ := h4 (13, j) _ _ (cs_e (addE_lo (bag_at hj) (by show 13 < 30; decide)) (by show 3 ≤ 13; decide)) (if_neg (by intro z; cases z))
  refine wpAny_call (codeAny_mono (addCons_spec (Q := fun v s' => v = .none ∧ ∃ ta, Chg g' s s' ∧ Led g' s'.heap (listS [(cl, LstI (tas.map Value.ref ++ [.ref ta])), (ta, TupI [.ref x, vv])])) (hA.le (by decide)) h1 (T.mono h2.get) (h2.get _ _ gp) (gpd.mono h2) gx hC (by rw [List.length_map]; omega) L2 hargs
    fun s' ta a b => ⟨rfl, ta, a, b⟩) fun r s' z => ?_)
  rcases r with e | (v | _ | _ | _) <;> first | exact z.elim | skip
  obtain ⟨rfl, ta, c1, L3⟩ := z
  refine h s' ta ((h5 s' (fun l => if l = (12, 0) then some (cl, LstI (tas.map Value.ref ++ [.ref ta])) else if l = (13, bag.length) then some (ta, TupI [.ref x, vv]) else none) c1 ?_).sto (bag_over (Z' := Z)))
  refine L3.ren (fun l => if l = (12, 0) then 0 else 1) (fun l p e => ?_) fun l l' p p' e e' q => ?_
  · by_cases z : l = (12, 0)
    · rw [if_pos z] at e ⊢; exact e
    · rw [if_neg z] at e ⊢
      by_cases z1 : l = (13, bag.length)
      · rw [if_pos z1] at e; exact e
      · rw [if_neg z1] at e; cases e
  · have cs : ∀ {l : Lab} {p : Addr × (Obj → Prop)}, (if l = (12, 0) then some (cl, LstI (tas.map Value.ref ++ [.ref ta])) else if l = (13, bag.length) then some (ta, TupI [.ref x, vv]) else none) = some p → l = (12, 0) ∨ l = (13, bag.length) := by
      intro l p e
      by_cases z : l = (12, 0)
      · exact .inl z
      · rw [if_neg z] at e
        by_cases z1 : l = (13, bag.length)
        · exact .inr z1
        · rw [if_neg z1] at e; cases e
    rcases cs e with rfl | rfl <;> rcases cs e' with rfl | rfl
    · rfl
    · rw [if_pos rfl, if_neg (by intro z; cases z)] at q; cases q
    · rw [if_neg (by intro z; cases z), if_pos rfl] at q; cases q
    · rfl
end

/-- the rows, and what else there is -/
structure RowsOk (w : World) (g : Heap) (n : Nat) (cols : List Nat) (i : Nat) (bag : List (Addr × (Obj → Prop))) (pres : List PreC) : Prop where
  ok : ∀ p ∈ pres, PB w bag g n p
  row : ∀ p ∈ pres, p.row = true
  obj : ∀ p ∈ pres, ∃ φ, (p.obj, φ) ∈ bag
  pw : pres.Pairwise fun p q => p.obj ≠ q.obj ∧ ∀ x ∈ q.vars, x ∉ p.vars
  col : ∀ p ∈ pres, ∃ c, c < i ∧ ∀ x ∈ p.vars, cols.getD x 0 = c
  sat : ∀ σ : Nat → Int, (∀ p ∈ pres, p.sat σ) ↔ ∀ c, c < i → sumBy σ (rowOf n cols c) ≤ 1
  len : pres.length ≤ i
structure OthOk (w : World) (g : Heap) (n : Nat) (bag : List (Addr × (Obj → Prop))) (pres : List PreC) (sat : (Nat → Int) → Prop) (len : Nat) : Prop where
  ok : ∀ p ∈ pres, PB w bag g n p
  row : ∀ p ∈ pres, p.row = false
  sat : ∀ σ : Nat → Int, (∀ p ∈ pres, p.sat σ) ↔ sat σ
  len : pres.length ≤ len
theorem RowsOk.mono {w : World} {g : Heap} {n i : Nat} {cols : List Nat} {bag bag' : List (Addr × (Obj → Prop))} {pres : List PreC} (h : RowsOk w g n cols i bag pres) (k : ∀ q ∈ bag, q ∈ bag') : RowsOk w g n cols i bag' pres :=
  ⟨fun p hp => (h.ok p hp).mono k, h.row, fun p hp => let ⟨φ, e⟩ := h.obj p hp; ⟨φ, k _ e⟩, h.pw, h.col, h.sat, h.len⟩
theorem OthOk.mono {w : World} {g : Heap} {n len : Nat} {bag bag' : List (Addr × (Obj → Prop))} {pres : List PreC} {sat : (Nat → Int) → Prop} (h : OthOk w g n bag pres sat len) (k : ∀ q ∈ bag, q ∈ bag') : OthOk w g n bag' pres sat len :=
  ⟨fun p hp => (h.ok p hp).mono k, h.row, h.sat, h.len⟩
theorem rowOf_mem {n c x : Nat} {cols : List Nat} : x ∈ rowOf n cols c ↔ x < n ∧ cols.getD x 0 = c := by
  unfold rowOf
  rw [List.mem_filter, List.mem_range, beq_iff_eq]
/-- a row more -/
theorem RowsOk.snoc {w : World} {g : Heap} {n i : Nat} {cols : List Nat} {bag bag' : List (Addr × (Obj → Prop))} {pres : List PreC} {p : PreC} (h : RowsOk w g n cols i bag pres) (k : ∀ q ∈ bag, q ∈ bag') (hp : PB w bag' g n p) (h1 : p.row = true) (h2 : p.vars = rowOf n cols i) (h3 : p.sat = fun σ => sumBy σ (rowOf n cols i) ≤ 1)
    (h4 : ∃ φ, (p.obj, φ) ∈ bag') (h5 : ∀ φ, (p.obj, φ) ∉ bag) : RowsOk w g n cols (i + 1) bag' (pres ++ [p]) := by
  have h' := h.mono k
  refine ⟨fun q hq => ?_, fun q hq => ?_, fun q hq => ?_, ?_, fun q hq => ?_, fun σ => ?_, ?_⟩
  · rcases List.mem_append.mp hq with hq | hq
    · exact h'.ok q hq
    · rw [List.mem_singleton.mp hq]; exact hp
  · rcases List.mem_append.mp hq with hq | hq
    · exact h'.row q hq
    · rw [List.mem_singleton.mp hq]; exact h1
  · rcases List.mem_append.mp hq with hq | hq
    · exact h'.obj q hq
    · rw [List.mem_singleton.mp hq]; exact h4
  · rw [List.pairwise_append]
    refine ⟨h'.pw, List.pairwise_singleton _ _, fun q hq q' hq' => ?_⟩
    rw [List.mem_singleton.mp hq']
    refine ⟨fun e => ?_, fun x hx hx' => ?_⟩
    · obtain ⟨φ, hφ⟩ := h.obj q hq
      rw [e] at hφ
      exact h5 φ hφ
    · obtain ⟨c, hc, hall⟩ := h.col q hq
      rw [h2] at hx
      have := (rowOf_mem.mp hx).2
      rw [hall x hx'] at this
      omega
  · rcases List.mem_append.mp hq with hq | hq
    · obtain ⟨c, hc, hall⟩ := h.col q hq
      exact ⟨c, by omega, hall⟩
    · rw [List.mem_singleton.mp hq, h2]
      exact ⟨i, by omega, fun x hx => (rowOf_mem.mp hx).2⟩
  · constructor
    · intro hs c hc
      rcases Nat.lt_succ_iff_lt_or_eq.mp hc with hc | rfl
      · exact (h.sat σ).mp (fun q hq => hs q (List.mem_append_left _ hq)) c hc
      · have := hs p (List.mem_append_right _ (List.mem_singleton.mpr rfl))
        rw [h3] at this; exact this
    · intro hs q hq
      rcases List.mem_append.mp hq with hq | hq
      · exact (h.sat σ).mpr (fun c hc => hs c (by omega)) q hq
      · rw [List.mem_singleton.mp hq, h3]
        exact hs i (Nat.lt_succ_self i)
  · rw [List.length_append, List.length_singleton]
    have := h.len; omega
/-- no road of this colour -/
theorem RowsOk.skip {w : World} {g : Heap} {n i : Nat} {cols : List Nat} {bag bag' : List (Addr × (Obj → Prop))} {pres : List PreC} (h : RowsOk w g n cols i bag pres) (k : ∀ q ∈ bag, q ∈ bag') (he : rowOf n cols i = []) : RowsOk w g n cols (i + 1) bag' pres := by
  have h' := h.mono k
  refine ⟨h'.ok, h'.row, h'.obj, h'.pw, fun q hq => ?_, fun σ => ?_, by have := h.len; omega⟩
  · obtain ⟨c, hc, hall⟩ := h.col q hq
    exact ⟨c, by omega, hall⟩
  · rw [h.sat σ]
    constructor
    · intro hs c hc
      rcases Nat.lt_succ_iff_lt_or_eq.mp hc with hc | rfl
      · exact hs c hc
      · rw [he]
        show (0 : Int) ≤ 1
        decide
    · intro hs c hc
      exact hs c (by omega)
theorem OthOk.snoc {w : World} {g : Heap} {n len : Nat} {bag bag' : List (Addr × (Obj → Prop))} {pres : List PreC} {sat : (Nat → Int) → Prop} {p : PreC} (h : OthOk w g n bag pres sat len) (k : ∀ q ∈ bag, q ∈ bag') (hp : PB w bag' g n p) (h1 : p.row = false) : OthOk w g n bag' (pres ++ [p]) (fun σ => sat σ ∧ p.sat σ) (len + 1) := by
  have h' := h.mono k
  refine ⟨fun q hq => ?_, fun q hq => ?_, fun σ => ?_, by rw [List.length_append, List.length_singleton]; have := h.len; omega⟩
  · rcases List.mem_append.mp hq with hq | hq
    · exact h'.ok q hq
    · rw [List.mem_singleton.mp hq]; exact hp
  · rcases List.mem_append.mp hq with hq | hq
    · exact h'.row q hq
    · rw [List.mem_singleton.mp hq]; exact h1
  · rw [← h.sat σ]
    constructor
    · intro hs
      exact ⟨fun q hq => hs q (List.mem_append_left _ hq), hs p (List.mem_append_right _ (List.mem_singleton.mpr rfl))⟩
    · rintro ⟨a, b⟩ q hq
      rcases List.mem_append.mp hq with hq | hq
      · exact a q hq
      · rw [List.mem_singleton.mp hq]; exact b
theorem OthOk.congr {w : World} {g : Heap} {n len len' : Nat} {bag : List (Addr × (Obj → Prop))} {pres : List PreC} {sat sat' : (Nat → Int) → Prop} (h : OthOk w g n bag pres sat len) (e : ∀ σ, sat σ ↔ sat' σ) (el : len ≤ len') : OthOk w g n bag pres sat' len' :=
  ⟨h.ok, h.row, fun σ => (h.sat σ).trans (e σ), Nat.le_trans h.len el⟩
/-- the constraints together, by number -/
theorem preL_of {w : World} {g g' : Heap} {n i len : Nat} {cols : List Nat} {bag : List (Addr × (Obj → Prop))} {rs os : List PreC} {sat : (Nat → Int) → Prop} {d : PreC} (hr : RowsOk w g n cols i bag rs) (ho : OthOk w g n bag os sat len) (k : Sub g g') (hb : ∀ q ∈ bag, Has g' q.1 q.2) (hl : i + len ≤ 100) :
    PreL w g' n (rs ++ os).length (fun j => (rs ++ os).getD j d) := by
  have at_ : ∀ {j : Nat}, j < (rs ++ os).length → ∃ p, (rs ++ os)[j]? = some p ∧ (rs ++ os).getD j d = p := fun {j} hj => ⟨(rs ++ os)[j], List.getElem?_eq_getElem hj, by rw [List.getD_eq_getElem?_getD, List.getElem?_eq_getElem hj]; rfl⟩
  refine ⟨fun j hj => ?_, ?_, fun j k' hkj hj hrow => ?_⟩
  · obtain ⟨p, hp, e⟩ := at_ hj
    rw [e]
    rcases List.mem_append.mp (List.mem_of_getElem? hp) with h | h
    · exact hr.ok p h g' k hb
    · exact ho.ok p h g' k hb
  · rw [List.length_append]
    have := hr.len
    have := ho.len
    omega
  · obtain ⟨p, hp, e⟩ := at_ hj
    obtain ⟨q, hq, e'⟩ := at_ (Nat.lt_trans hkj hj)
    rw [e] at hrow
    rw [e, e']
    have hjr : j < rs.length := by
      rcases Nat.lt_or_ge j rs.length with h | h
      · exact h
      · rw [List.getElem?_append_right h] at hp
        have := ho.row p (List.mem_of_getElem? hp)
        rw [this] at hrow; cases hrow
    rw [List.getElem?_append_left hjr] at hp
    rw [List.getElem?_append_left (Nat.lt_trans hkj hjr)] at hq
    have hpw := List.pairwise_iff_getElem.mp hr.pw k' j (Nat.lt_trans hkj hjr) hjr hkj
    have e1 := (List.getElem?_eq_some_iff.mp hp).2
    have e2 := (List.getElem?_eq_some_iff.mp hq).2
    rw [e1, e2] at hpw
    exact ⟨hr.row q (List.mem_of_getElem? hq), hpw.1, hpw.2⟩
theorem range_getD {α β : Type} {l : List α} {d : α} {f : α → β} : (List.range l.length).map (fun j => f (l.getD j d)) = l.map f := by
  refine List.ext_getElem? fun i => ?_
  rw [List.getElem?_map, List.getElem?_map]
  by_cases h : i < l.length
  · rw [List.getElem?_range h, List.getElem?_eq_getElem h]
    simp [List.getD_eq_getElem?_getD, List.getElem?_eq_getElem h]
  · rw [List.getElem?_eq_none (by simpa using h), List.getElem?_eq_none (by omega)]; rfl
end Mine
end

section
open PySem PySem.W PySem.Calls PyProof.Rows
namespace Mine

abbrev D00 : Nat → DA := fun _ => ⟨0, 0, 0, 0⟩
def eProb (w : World) (pb pd slv sdx cl vd : Addr) : Sto Lab := fun l => if l = (12, 0) then some (cl, LstI []) else if l = (8, 0) then some (vd, DicK w []) else
  if l.1 = 20 then listS [(pb, fun o => o = instObj 110 pd), (pd, ProbD w slv cl vd), (slv, fun o => o = instObj 186 sdx), (sdx, SolvD w)] l.2 else none
def e8 (w : World) (cl vd : Addr) : Sto Lab := fun l => if l = (12, 0) then some (cl, LstI []) else if l = (8, 0) then some (vd, DicK w []) else none
def eV (w : World) (D : Nat → DA) (n : Nat) (cl vd : Addr) : Sto Lab := fun l => if l = (12, 0) then some (cl, LstI []) else vE w D n vd l
theorem led_outS {g h : Heap} {fr : List (Addr × Loc)} (L : Led g h (outS fr)) : Led g h (cS D00 0 Z0 (addE noS2 (outS fr))) := L.sub fun l p e => by
  unfold cS domS at e
  by_cases q : l.1 < 3
  · rw [if_pos q, if_neg (by omega)] at e; cases e
  · rw [if_neg q] at e
    unfold addE at e
    by_cases q2 : l.1 < 30
    · rw [if_pos q2] at e; cases e
    · rw [if_neg q2] at e; exact e
theorem v_over {w : World} {D : Nat → DA} {n : Nat} {cl vd : Addr} {X : Sto Lab} : ∀ l p, cS D n Z0 (addE (eV w D n cl vd) X) l = some p → over2 (vS w D00 0 vd) (vS w D n vd) (cS D00 0 Z0 (addE (e8 w cl vd) X)) l = some p := by
  intro l p e
  by_cases q : l.1 < 3
  · refine over2_new ?_
    unfold cS at e
    rw [if_pos q] at e
    show cS D n Z0 _ l = _
    unfold cS
    rw [if_pos q]; exact e
  · unfold cS at e
    rw [if_neg q] at e
    have none0 : ∀ {E : Sto Lab}, cS D00 0 Z0 E l = E l := by intro E; unfold cS; rw [if_neg q]
    have noneN : ∀ {E : Sto Lab}, cS D n Z0 E l = E l := by intro E; unfold cS; rw [if_neg q]
    unfold addE at e
    by_cases q2 : l.1 < 30
    · rw [if_pos q2] at e
      unfold eV at e
      by_cases q3 : l = (12, 0)
      · rw [if_pos q3] at e
        refine over2_old ?_ ?_ ?_
        · show cS D n Z0 _ l = _
          rw [noneN, q3]; unfold vE; rw [if_neg (by intro z; cases z), if_neg (by rintro ⟨z, _⟩; cases z)]
        · show cS D00 0 Z0 _ l = _
          rw [none0, q3]; unfold vE; rw [if_neg (by intro z; cases z), if_neg (by rintro ⟨z, _⟩; cases z)]
        · rw [none0]
          unfold addE e8; rw [if_pos q2, if_pos q3]; exact e
      · rw [if_neg q3] at e
        refine over2_new ?_
        show cS D n Z0 _ l = _
        rw [noneN]; exact e
    · rw [if_neg q2] at e
      refine over2_old ?_ ?_ ?_
      · show cS D n Z0 _ l = _
        rw [noneN]; unfold vE; rw [if_neg (by rintro rfl; exact q2 (by decide)), if_neg (by rintro ⟨z, _⟩; exact q2 (by rw [z]; decide))]
      · show cS D00 0 Z0 _ l = _
        rw [none0]; unfold vE; rw [if_neg (by rintro rfl; exact q2 (by decide)), if_neg (by rintro ⟨z, _⟩; exact q2 (by rw [z]; decide))]
      · rw [none0]
        unfold addE; rw [if_neg q2]; exact e

section
variable {w : World} {A : Around} {s0 : Shared} {g : Heap}
theorem choice_spec {outer : List Env} {fr : List (Addr × Loc)} {ca ra : Addr} {cols : List Nat} {rgs : List (Addr × List Nat)} {cnt : Nat} {tc : Tok} {Q : Value → Shared → Prop} (hA : Ok A 28) (hfr : A.frames = some outer) (hF : Fits outer fr) (hg : Sub g s0.heap) (T : Stat w g)
    (gca : Has g ca (LstN (natsV cols))) (gra : Has g ra (LstI (rgs.map fun r => Value.ref r.1))) (grl : ∀ r ∈ rgs, Has g r.1 (LstN (natsV r.2))) (n3 : 3 ≤ cols.length) (n6 : cols.length ≤ 6) (hr : ∀ r ∈ rgs, (∀ x ∈ r.2, x < cols.length) ∧ r.2 ≠ [] ∧ r.2.Nodup ∧ r.2.length ≠ 1 ∧ r.2.length ≤ 100) (hrl : rgs.length ≤ 64)
    (L : Led g s0.heap (outS fr))
    (hN : ∀ s', (∀ σ, ¬ Sat cols.length cols (rgs.map (·.2)) cnt σ) → Chg g s0 s' → Led g s'.heap (outS fr) → Q .none s')
    (hY : ∀ s' r a σ, Sat cols.length cols (rgs.map (·.2)) cnt σ → (a.map (·.1)).Perm (natsV (List.range cols.length)) → (∀ k : Nat, k < cols.length → a.lookup (k : Int) = some (σ k)) → Chg g s0 s' → Led g s'.heap (updS (outS fr) (3, 0) (r, DicN w a)) → (r == sysModules) = false → Q (.ref r) s') :
    codeAny (model Pr w) A (.call (.ref 419) ⟨[.ref ca, .ref ra, .int cnt tc], []⟩) (Rv Q) s0 := by
  obtain ⟨vc, ivc, gca'⟩ := gca.ints
  have lvc := ints_length ivc
  rw [List.length_map] at lvc
  refine r_enterCell (S := cS D00 0 Z0 (addE noS2 (outS fr))) (m := lo [("rings", .ref ra), ("count", .int cnt tc)]) (cm := lo [("colours", .ref ca)]) (binds := [("colours", .ref ca), ("rings", .ref ra), ("count", .int cnt tc)]) (by exact rfl) hA.room hg T (by kernel_rfl) (by rfl) (fun L x hx => ?_) (led_outS L) (fun L x v e => ?_) (fun L x v e => ?_) fun Lc s₂ S => ?_
  · simp only [List.mem_cons, List.not_mem_nil, or_false] at hx
    rcases hx with rfl | rfl | rfl
    · exact .inr ⟨rfl, rfl⟩
    · exact .inl rfl
    · exact .inl rfl
  · have e' := mem_of_lookup e
    simp only [List.mem_cons, List.not_mem_nil, or_false] at e'
    rcases e' with e' | e' <;> (cases e'; rfl)
  · have e' := mem_of_lookup e
    simp only [List.mem_cons, List.not_mem_nil, or_false] at e'
    cases e'; rfl
  -- problem = Problem()
  refine r_assign (r_callName (r_glob (S.stat T) ng_Problem (r_cw0 (keeps_K (S.stat T).K (by kernel_rfl)) (new_problem (hA.deeper (k := 27) |>.le (by decide)) (S.stat T) fun s' pb pd slv sdx cl vd M sysV => ?_))))
  have S := S.merge M (S'' := cS D00 0 Z0 (addE (eProb w pb pd slv sdx cl vd) (outS fr))) ⟨fun j => match j with | 4 => (12, 0) | 5 => (8, 0) | j => (20, j), fun l a φ e => by
    unfold cS at e
    by_cases q : l.1 < 3
    · rw [if_pos q] at e; left; unfold cS; rw [if_pos q]; exact e
    · rw [if_neg q] at e
      unfold addE at e
      by_cases q2 : l.1 < 30
      · rw [if_pos q2] at e
        unfold eProb at e
        by_cases q3 : l = (12, 0)
        · rw [if_pos q3] at e; cases e; exact .inr ⟨4, q3, rfl⟩
        · rw [if_neg q3] at e
          by_cases q4 : l = (8, 0)
          · rw [if_pos q4] at e; cases e; exact .inr ⟨5, q4, rfl⟩
          · rw [if_neg q4] at e
            by_cases q5 : l.1 = 20
            · rw [if_pos q5] at e
              obtain ⟨x, j⟩ := l
              dsimp only at q5 e
              subst q5
              match j, e with
              | 0, e => cases e; exact .inr ⟨0, rfl, rfl⟩
              | 1, e => cases e; exact .inr ⟨1, rfl, rfl⟩
              | 2, e => cases e; exact .inr ⟨2, rfl, rfl⟩
              | 3, e => cases e; exact .inr ⟨3, rfl, rfl⟩
              | j + 4, e => cases e
            · rw [if_neg q5] at e; cases e
      · rw [if_neg q2] at e
        left; unfold cS addE; rw [if_neg q, if_neg q2]; exact e⟩
  refine r_store S fun s' S => ?_
  obtain ⟨g1, k1, S, F1⟩ := S.freezeA (e8 w cl vd) (fun l p e => by
    unfold e8 at e
    unfold eProb
    by_cases q3 : l = (12, 0)
    · rw [if_pos q3] at e ⊢; exact e
    · rw [if_neg q3] at e ⊢
      by_cases q4 : l = (8, 0)
      · rw [if_pos q4] at e ⊢; exact e
      · rw [if_neg q4] at e; cases e)
  have gpb := F1 (20, 0) _ _ (by decide) (by decide) rfl rfl
  have gpd := F1 (20, 1) _ _ (by decide) (by decide) rfl rfl
  have gslv := F1 (20, 2) _ _ (by decide) (by decide) rfl rfl
  have gsdx := F1 (20, 3) _ _ (by decide) (by decide) rfl rfl
  have T1 := T.mono k1.get
  obtain ⟨_, gp, rfl⟩ := gpb
  obtain ⟨_, gsv, rfl⟩ := gslv
  obtain ⟨_, gpd', q, rfl⟩ := id gpd
  -- problem.addVariables(list(range(len(colours))), [0, 1])
  refine r_expr (r_callMeth (r_local S rfl (r_getMethod (S.stat T1) (S.base gp) ga_prob rfl gh_prob fi_addVars ty_71 (.inl rfl) (.inr ⟨pd, _, rfl, S.base gpd', lk_addVars q slv cl vd⟩) ?_)))
  refine r_cw (args_cons (r_callName (r_built (S.stat T1) nb_list bt_list (r_cw (args_cons (r_callName (r_built (S.stat T1) nb_range bt_range (r_cw (args_cons (r_callName (r_built (S.stat T1) nb_len bt_len (r_cw (args_cons (r_cell S rfl (args_nil ⟨keeps_builtin _ _, b_lenN (S.stat T1) bmL__len__ (S.baseH (gca.mono k1)) (by rw [List.length_map]; omega) fun t s' g' => ?_⟩)))))))))))))))
  have S := S.grow g'
  rw [List.length_map]
  refine args_nil ⟨keeps_type _ _, b_range fun r s' g' hrr hrf => ?_⟩
  have S := S.grow g'
  refine args_nil ⟨keeps_type _ _, b_listRange hA.hd hrr (by omega) fun V s' g' hV hVf => ?_⟩
  have S := S.newA (E' := fun l => if l = (20, 0) then some (V, LstN (natsV (List.range cols.length))) else e8 w cl vd l) g' (20, 0) hV hVf (fun l' q e => by
    by_cases z : l' = (20, 0)
    · rw [if_pos z] at e; cases e; exact .inl ⟨z, rfl⟩
    · rw [if_neg z] at e; exact .inr ⟨z, e⟩)
  refine args_cons (r_list (args_cons (r_int fun t0 s' g' => args_cons (r_int fun t1 s'' g'' => args_nil ⟨by simp, fun l01 s3 g3 hl01 hlf => ?_⟩))))
  have S := ((S.grow g').grow g'').newA (E' := fun l => if l = (20, 1) then some (l01, LstN [0, 1]) else if l = (20, 0) then some (V, LstN (natsV (List.range cols.length))) else e8 w cl vd l) g3 (20, 1) (hl01.ofInts (.cons 0 t0 (.cons 1 t1 .nil))) hlf (fun l' q e => by
    by_cases z : l' = (20, 1)
    · rw [if_pos z] at e; cases e; exact .inl ⟨z, rfl⟩
    · rw [if_neg z] at e; exact .inr ⟨z, e⟩)
  obtain ⟨g2, k2, S, F2⟩ := S.freezeA (e8 w cl vd) (fun l p e => by
    rw [if_neg (by rintro rfl; unfold e8 at e; rw [if_neg (by intro z; cases z), if_neg (by intro z; cases z)] at e; cases e), if_neg (by rintro rfl; unfold e8 at e; rw [if_neg (by intro z; cases z), if_neg (by intro z; cases z)] at e; cases e)]; exact e)
  have gV := F2 (20, 0) _ _ (by decide) (by decide) rfl rfl
  have gl := F2 (20, 1) _ _ (by decide) (by decide) rfl rfl
  have T2 := T1.mono k2.get
  refine args_nil ⟨keeps_K (S.stat T2).K (by kernel_rfl), ?_⟩
  obtain ⟨g', h1, h2, h3, h4, h5⟩ := S.call2 (Sc := vS w D00 0 vd) (fun l p e => by
    unfold vS cS domS at e
    by_cases q : l.1 < 3
    · rw [if_pos q, if_neg (by omega)] at e; cases e
    · rw [if_neg q] at e
      unfold vE at e
      by_cases z : l = (8, 0)
      · subst z; exact e
      · rw [if_neg z, if_neg (by omega)] at e; cases e)
  refine wpAny_call (codeAny_mono (addVars_spec (k := cols.length) (Q := fun v s' => v = .none ∧ ∃ D, Chg g' s3 s' ∧ Led g' s'.heap (vS w D cols.length vd)) (hA.deeper (k := 27) |>.le (by decide)) h1 (T2.mono h2.get) (h2.get _ _ (k2.get _ _ gp)) ((gpd.mono k2).mono h2) sysV (gV.mono h2) (gl.mono h2) n6 h3 fun s' D a b => ⟨rfl, D, a, b⟩) fun r s' z => ?_)
  rcases r with e | (v | _ | _ | _) <;> first | exact z.elim | skip
  obtain ⟨rfl, D, c1, L1⟩ := z
  have S := (h5 s' _ c1 L1).sto v_over
  obtain ⟨g3, k3, S, F3⟩ := S.freezeA (bagE cl [] []) (fun l p e => by
    unfold bagE at e
    unfold eV
    by_cases z : l = (12, 0)
    · rw [if_pos z] at e ⊢; exact e
    · rw [if_neg z] at e
      by_cases z1 : l.1 = 13
      · rw [if_pos z1] at e; cases e
      · rw [if_neg z1] at e; cases e)
  have gvd := F3 (8, 0) _ _ (by decide) (by decide) rfl rfl
  have B : DomB w g3 D cols.length := ⟨fun x hx => F3 (9, x) _ _ (by show 3 ≤ 9; decide) (by show 9 < 30; decide) (by
    unfold eV vE
    rw [if_neg (by intro z; cases z), if_neg (by intro z; cases z), if_pos ⟨rfl, hx⟩]) (by
    unfold bagE
    rw [if_neg (by intro z; cases z), if_neg (by show ¬ 9 = 13; decide)])⟩
  have T3 := T2.mono k3.get
  have k13 : Sub g1 g3 := k2.trans k3
  have k03 : Sub g g3 := k1.trans k13
  have gp3 := k13.get _ _ gp
  have gpd3 := gpd.mono k13
  have gpd3' := k13.get _ _ gpd'
  have S := S.fit2 (m' := lo [("problem", .ref pb), ("rings", .ref ra), ("count", .int cnt tc)]) (cm' := lo [("colours", .ref ca)])
  have n6' : cols.length ≤ 6 := n6
  -- for colour in range(3)
  refine r_for (r_callName (r_built (S.stat T3) nb_range bt_range (r_cw (args_cons (r_int fun t s' g' => args_nil ⟨keeps_type _ _, b_range (n := 3) fun r s'' g'' hrr hrf => ?_⟩)))))
  have S := (S.grow g').grow g''
  refine .mk (fun i m cm S => ∃ bag pres, m = lo [("problem", .ref pb), ("rings", .ref ra), ("count", .int cnt tc)] ∧ cm = lo [("colours", .ref ca)] ∧ S = cS D cols.length Z0 (addE (bagE cl (pres.map (·.ta)) bag) (outS fr)) ∧ RowsOk w g3 cols.length cols i bag pres)
    (itb_range (n := 3) (by omega) hA.hd hrr) ⟨_, _, _, ⟨[], [], rfl, rfl, rfl, ⟨by simp, by simp, by simp, List.Pairwise.nil, by simp, by simp, by simp⟩⟩, S.fit2⟩ (fun i P' m cm S s hi Y => trivial) (fun i I ψ m cm S s v hi hv hval S => ?_) fun m cm S s hv S => ?_
  · obtain ⟨bag, pres, rfl, rfl, rfl, K⟩ := hv
    obtain ⟨ti, rfl⟩ := hval
    refine a_name (r_storeCell S fun s S => ?_)
    -- row = [k for k in range(len(colours)) if colours[k] == colour]
    refine r_assignCompG (ι := Lab) (fun j vs => IntsAre vs (natsV (rowOf j cols i)) ∧ j ≤ 6) (fun j vs hr => by
        have h1 := ints_length hr.1
        rw [List.length_map] at h1
        have h2 := List.length_filter_le (fun k => cols.getD k 0 == i) (List.range j)
        rw [List.length_range] at h2
        unfold rowOf at h1
        omega) (13, bag.length)
      (r_callName (r_built (S.stat T3) nb_range bt_range (r_cw (args_cons (r_callName (r_built (S.stat T3) nb_len bt_len (r_cw (args_cons (r_cell S rfl (args_nil ⟨keeps_builtin _ _, b_lenN (S.stat T3) bmL__len__ (S.baseH (gca.mono k03)) (by rw [List.length_map]; omega) fun t s' g' => ?_⟩))))))))))
    have S := S.grow g'
    rw [List.length_map]
    refine args_nil ⟨keeps_type _ _, b_range fun r s' g' hrr hrf => ?_⟩
    have S := S.grow g'
    refine ⟨cols.length, _, _, itb_range (by omega) hA.hd hrr, S.stat T3, ⟨⟨.nil, Nat.zero_le _⟩, fun h k => trivial, fun j vs v C D' P' s3 hj hr hval3 X3 => ?_⟩, _, _, _, _, _, rfl, S, fun Dr vs s'' hr S => ?_⟩
    · obtain ⟨tj, rfl⟩ := hval3
      obtain ⟨cj, hcj⟩ : ∃ cj, cols[j]? = some cj := ⟨_, List.getElem?_eq_getElem hj⟩
      have hD : cols.getD j 0 = cj := by rw [List.getD_eq_getElem?_getD, hcj]; rfl
      have hnext : rowOf (j + 1) cols i = rowOf j cols i ++ if cj == i then [j] else [] := by
        unfold rowOf
        rw [List.range_succ, List.filter_append]
        congr 1
        rw [List.filter_cons, hD]; rfl
      refine a_name (r_store X3 fun s4 X4 => te_one (t_cmp (r_sub (r_capt S X4.chg.sub rfl (r_local X4 rfl ⟨inPyListN (X4.stat (S.stat T3)) ((S.baseH (gca.mono k03)).mono X4.chg.sub), listN_get ((S.baseH (gca.mono k03)).mono X4.chg.sub) (by rw [List.getElem?_map, hcj]; rfl) (by rw [List.length_map]; omega) fun t4 => ?_⟩)))))
      refine r_capt S X4.chg.sub rfl (P.eq_int (tr_bool ?_))
      by_cases hc : cj = i
      · rw [if_pos (by simp [hc])]
        refine r_local X4 rfl ⟨⟨?_, by omega⟩, _, _, X4⟩
        rw [hnext, if_pos (by simp [hc])]
        unfold natsV
        rw [List.map_append]
        exact ints_snoc hr.1
      · rw [if_neg (by simp; omega)]
        refine ⟨⟨?_, by omega⟩, _, _, X4⟩
        rw [hnext, if_neg (by simpa using hc), List.append_nil]
        exact hr.1
    · have S := bag_upd (φ' := LstN (natsV (rowOf cols.length cols i))) S (fun o ho => ⟨vs, hr.1, ho⟩)
      have hrow : (Dr, LstN (natsV (rowOf cols.length cols i))) ∈ bag ++ [(Dr, LstN (natsV (rowOf cols.length cols i)))] := List.mem_append_right _ (List.mem_singleton.mpr rfl)
      have rlen : (rowOf cols.length cols i).length ≤ 6 := by
        have h2 := List.length_filter_le (fun k => cols.getD k 0 == i) (List.range cols.length)
        rw [List.length_range] at h2
        unfold rowOf
        omega
      refine r_if (t_name (r_local S rfl (truthN (S.stat T3) bmL__len__ nobool_list (S.bagAt hrow) (by rw [List.length_map]; omega) fun s' g' => ?_)))
      have S := S.grow g'
      by_cases he : rowOf cols.length cols i = []
      · rw [if_neg (by simp [he])]
        exact r_nil (k_next (r_nil ⟨_, _, _, ⟨_, pres, rfl, rfl, rfl, K.skip (fun q hq => List.mem_append_left _ hq) he⟩, S.fit2⟩))
      · rw [if_pos (by simpa using he)]
        refine r_expr (r_callMeth (r_local S rfl (r_getMethod (S.stat T3) (S.base gp3) ga_prob rfl gh_prob fi_addCon ty_79 (.inl rfl) (.inr ⟨pd, _, rfl, S.base gpd3', lk_addCon q slv cl vd⟩) ?_)))
        refine r_cw (args_cons (r_callName (r_glob (S.stat T3) ng_Max (r_cw (args_cons (r_int fun t1 s1 g1 => args_nil ⟨keeps_K (S.grow g1 |>.stat T3).K (by kernel_rfl), new_max (hA.deeper (k := 27) |>.le (by decide)) (S.grow g1 |>.stat T3) fun s2 x dx g2 gx gdx fx fdx hne => ?_⟩))))))
        have S := S.grow g1
        have fobj : ∀ φ, (x, φ) ∉ bag := fun φ hm => by
          obtain ⟨o, ho, _⟩ := S.bagAt (List.mem_append_left _ hm)
          rw [fx] at ho; cases ho
        have S := S.bagTwo g2 (φ := fun o => o = instObj 371 dx) ⟨_, gx, rfl⟩ gdx fx fdx hne
        refine args_cons (r_local S rfl (args_nil ⟨keeps_K (S.stat T3).K (by kernel_rfl), ?_⟩))
        refine bag_add (hA.deeper (k := 27) |>.le (by decide)) S T3 gp3 gpd3 (x := x) (C := 371) (dx := dx) (List.mem_append_left _ (List.mem_append_right _ (List.mem_singleton.mpr rfl))) (by kernel_rfl) (by have := K.len; rw [List.length_map]; omega) (.inl rfl) fun s' ta S => ?_
        refine r_nil (k_next (r_nil ⟨_, _, _, ⟨_, pres ++ [⟨ta, x, some Dr, rowOf cols.length cols i, true, fun σ => sumBy σ (rowOf cols.length cols i) ≤ 1⟩], rfl, rfl, by rw [List.map_append]; rfl, ?_⟩, S.fit2⟩))
        refine K.snoc (fun q hq => by simp [hq]) (fun g' hg' hb => ?_) rfl rfl rfl ⟨(fun o => o = instObj 371 dx), by simp⟩ fobj
        refine ⟨hb (ta, TupI [.ref x, .ref Dr]) (by simp), fun a e => ?_, (fun e => nomatch e), fun y hy => (rowOf_mem.mp hy).1, he, ?_, by show (rowOf cols.length cols i).length ≤ 100; omega, .inl ⟨rfl, dx, ?_, hb (dx, MsD w 1) (by simp), rfl⟩⟩
        · cases e
          exact hb (Dr, LstN (natsV (rowOf cols.length cols i))) (by simp)
        · exact List.Pairwise.filter _ List.nodup_range
        · obtain ⟨_, ho, rfl⟩ := hb (x, fun o => o = instObj 371 dx) (by simp)
          exact ho
  obtain ⟨bag, rs, rfl, rfl, rfl, KR⟩ := hv
  refine r_nil (k_next ?_)
  have gra3 := gra.mono k03
  -- for ring in rings
  refine r_for (r_local S rfl (.mk (fun i m cm S => ∃ bag os, m = lo [("problem", .ref pb), ("count", .int cnt tc)] ∧ cm = lo [("colours", .ref ca)] ∧ S = cS D cols.length Z0 (addE (bagE cl ((rs ++ os).map (·.ta)) bag) (outS fr)) ∧ RowsOk w g3 cols.length cols 3 bag rs ∧
      OthOk w g3 cols.length bag os (fun σ => ∀ r ∈ (rgs.map (·.2)).take i, 1 ≤ sumBy (ind [0] σ) r) i)
    (itb_list hA.hd (S.baseH gra3)) ⟨_, _, _, ⟨bag, [], rfl, rfl, by rw [List.append_nil], KR, ⟨by simp, by simp, by simp, by simp⟩⟩, S.fit2⟩ (fun i P' m cm S s hi Y => Y.baseH gra3) (fun i I ψ m cm S s v hi hv hval S => ?_) fun m cm S s hv S => ?_))
  · obtain ⟨bag, os, rfl, rfl, rfl, KR, KO⟩ := hv
    obtain ⟨rg, hrg, rfl⟩ := map_get hval
    have rm := List.mem_of_getElem? hrg
    obtain ⟨r1, r2, r3, r4, r5⟩ := hr rg rm
    have hi' : i < rgs.length := (List.getElem?_eq_some_iff.mp hrg).1
    refine a_name (r_store S fun s S => ?_)
    refine r_expr (r_callMeth (r_local S rfl (r_getMethod (S.stat T3) (S.base gp3) ga_prob rfl gh_prob fi_addCon ty_79 (.inl rfl) (.inr ⟨pd, _, rfl, S.base gpd3', lk_addCon q slv cl vd⟩) ?_)))
    refine r_cw (args_cons (r_callName (r_glob (S.stat T3) ng_Some (r_cw (args_cons (r_list (args_cons (r_int fun t0 s1 g1 => args_nil ⟨by simp, fun st s2 g2 hst hstf => ?_⟩))))))))
    have S := (S.grow g1).bagNew g2 (hst.ofInts (.cons 0 t0 .nil)) hstf
    refine args_nil ⟨keeps_K (S.stat T3).K (by kernel_rfl), new_some1 (hA.deeper (k := 27) |>.le (by decide)) (S.stat T3) fun s3 x dx g3' gx gdx fx fdx hne => ?_⟩
    have S := S.bagTwo g3' (φ := fun o => o = instObj 399 dx) ⟨_, gx, rfl⟩ gdx fx fdx hne
    refine args_cons (r_local S rfl (args_nil ⟨keeps_K (S.stat T3).K (by kernel_rfl), ?_⟩))
    refine bag_add (hA.deeper (k := 27) |>.le (by decide)) S T3 gp3 gpd3 (x := x) (C := 399) (dx := dx) (List.mem_append_left _ (List.mem_append_right _ (List.mem_singleton.mpr rfl))) (by kernel_rfl) (by have := KR.len; have := KO.len; rw [List.length_map, List.length_append]; omega) (.inl rfl) fun s' ta S => ?_
    refine r_nil ⟨_, _, _, ⟨_, os ++ [⟨ta, x, some rg.1, rg.2, false, fun σ => 1 ≤ sumBy (ind [0] σ) rg.2⟩], rfl, rfl, by rw [← List.append_assoc, List.map_append (l₁ := rs ++ os)]; rfl, KR.mono (fun q hq => by simp [hq]), ?_⟩, S.fit2⟩
    refine (KO.snoc (fun q hq => by simp [hq]) (fun g' hg' hb => ?_) rfl).congr (fun σ => ?_) (Nat.le_refl _)
    · refine ⟨hb (ta, TupI [.ref x, .ref rg.1]) (by simp), fun a e => ?_, (fun e => nomatch e), r1, r2, r3, r5, .inr ⟨rfl, r4, dx, st, [0], 1, ?_, hb (dx, SisD w st 1) (by simp), hb (st, LstN [0]) (by simp), rfl⟩⟩
      · cases e
        exact ((grl rg rm).mono k03).mono hg'
      · obtain ⟨_, ho, rfl⟩ := hb (x, fun o => o = instObj 399 dx) (by simp)
        exact ho
    · rw [take_snoc (x := rg.2) (by rw [List.getElem?_map, hrg]; rfl)]
      constructor
      · rintro ⟨a, b⟩ r hr
        rcases List.mem_append.mp hr with h | h
        · exact a r h
        · rw [List.mem_singleton.mp h]; exact b
      · intro a
        exact ⟨fun r hr => a r (List.mem_append_left _ hr), a rg.2 (List.mem_append_right _ (List.mem_singleton.mpr rfl))⟩
  obtain ⟨bag, os, rfl, rfl, rfl, KR, KO⟩ := hv
  rw [List.length_map, List.take_of_length_le (by rw [List.length_map]; exact Nat.le_refl _)] at KO
  refine r_nil (k_next ?_)
  refine r_expr (r_callMeth (r_local S rfl (r_getMethod (S.stat T3) (S.base gp3) ga_prob rfl gh_prob fi_addCon ty_79 (.inl rfl) (.inr ⟨pd, _, rfl, S.base gpd3', lk_addCon q slv cl vd⟩) ?_)))
  refine r_cw (args_cons (r_callName (r_glob (S.stat T3) ng_Some (r_cw (args_cons (r_list (args_cons (r_int fun t0 s1 g1 => args_nil ⟨by simp, fun st s2 g2 hst hstf => ?_⟩))))))))
  have S := (S.grow g1).bagNew g2 (hst.ofInts (.cons 1 t0 .nil)) hstf
  refine args_cons (r_local S rfl (args_nil ⟨keeps_K (S.stat T3).K (by kernel_rfl), new_some (hA.deeper (k := 27) |>.le (by decide)) (S.stat T3) rfl fun s3 x dx g3' gx gdx fx fdx hne => ?_⟩))
  have S := S.bagTwo g3' (φ := fun o => o = instObj 399 dx) ⟨_, gx, rfl⟩ gdx fx fdx hne
  refine args_nil ⟨keeps_K (S.stat T3).K (by kernel_rfl), ?_⟩
  refine bag_add (hA.deeper (k := 27) |>.le (by decide)) S T3 gp3 gpd3 (x := x) (C := 399) (dx := dx) (vv := .none) (List.mem_append_left _ (List.mem_append_right _ (List.mem_singleton.mpr rfl))) (by kernel_rfl) (by have := KR.len; have := KO.len; rw [List.length_map, List.length_append]; omega) (.inr ⟨rfl, rfl⟩) fun s' ta S => ?_
  have KR := KR.mono (bag' := bag ++ [(st, LstN [1])] ++ [(x, fun o => o = instObj 399 dx)] ++ [(dx, SisD w st cnt)] ++ [(ta, TupI [.ref x, .none])]) (fun q hq => by simp [hq])
  have KO := KO.snoc (bag' := bag ++ [(st, LstN [1])] ++ [(x, fun o => o = instObj 399 dx)] ++ [(dx, SisD w st cnt)] ++ [(ta, TupI [.ref x, .none])]) (p := ⟨ta, x, none, List.range cols.length, false, fun σ => (cnt : Int) ≤ sumBy (ind [1] σ) (List.range cols.length)⟩) (fun q hq => by simp [hq]) (fun g' hg' hb => ⟨hb (ta, TupI [.ref x, .none]) (by simp), (fun a e => nomatch e), fun _ => rfl, fun y hy => List.mem_range.mp hy, by
      intro e
      have := congrArg List.length e
      rw [List.length_range, List.length_nil] at this
      omega, List.nodup_range, by show (List.range cols.length).length ≤ 100; rw [List.length_range]; omega, .inr ⟨rfl, by show (List.range cols.length).length ≠ 1; rw [List.length_range]; omega, dx, st, [1], cnt, (by
      obtain ⟨_, ho, rfl⟩ := hb (x, fun o => o = instObj 399 dx) (by simp)
      exact ho), hb (dx, SisD w st cnt) (by simp), hb (st, LstN [1]) (by simp), rfl⟩⟩) rfl
  generalize hbag : bag ++ [(st, LstN [1])] ++ [(x, fun o => o = instObj 399 dx)] ++ [(dx, SisD w st cnt)] ++ [(ta, TupI [.ref x, .none])] = bag2 at S KR KO
  generalize hos : os ++ [(⟨ta, x, none, List.range cols.length, false, fun σ => (cnt : Int) ≤ sumBy (ind [1] σ) (List.range cols.length)⟩ : PreC)] = os2 at KO
  have etas : (rs ++ os).map (·.ta) ++ [ta] = (rs ++ os2).map (·.ta) := by rw [← hos, ← List.append_assoc, List.map_append (l₁ := rs ++ os)]; rfl
  rw [etas] at S
  -- return problem.getSolution()
  obtain ⟨g4, k4, S, F4⟩ := S.freezeA noS2 (fun l p e => by cases e)
  have gbag : ∀ q ∈ bag2, Has g4 q.1 q.2 := fun q hq => by
    obtain ⟨j, hj⟩ := List.getElem?_of_mem hq
    exact F4 (13, j) _ _ (by show 3 ≤ 13; decide) (by show 13 < 30; decide) (bag_at hj) rfl
  have gcl := F4 (12, 0) _ _ (by decide) (by decide) rfl rfl
  have T4 := T3.mono k4.get
  refine r_ret (r_callMeth (r_local S rfl (r_getMethod (S.stat T4) (S.base (k4.get _ _ gp3)) ga_prob rfl gh_prob fi_getSol ty_86 (.inl rfl) (.inr ⟨pd, _, rfl, S.base (k4.get _ _ gpd3'), lk_getSol q slv cl vd⟩) ?_)))
  refine r_cw0 (keeps_K (S.stat T4).K (by kernel_rfl)) ?_
  obtain ⟨g5, h1, h2, h3, h4, _, _⟩ := S.callL (Sc := cS D cols.length Z0 (addE noS2 (outS fr))) (fun l p e => e)
  have h3 := h3.sub (S' := cS D cols.length Z0 (outS ((Lc, lo [("problem", .ref pb), ("count", .int cnt tc)]) :: fr))) fun l p e => (push_out l).trans ((add_out l).trans e)
  have k35 := k4.trans h2
  have k05 := k03.trans k35
  have hP := preL_of (d := (⟨ta, x, none, List.range cols.length, false, fun σ => (cnt : Int) ≤ sumBy (ind [1] σ) (List.range cols.length)⟩ : PreC)) KR KO k35 (fun q hq => (gbag q hq).mono h2) (by omega)
  have hsat : ∀ σ, In01 cols.length σ → ((∀ i, i < (rs ++ os2).length → ((rs ++ os2).getD i ⟨ta, x, none, List.range cols.length, false, fun σ => (cnt : Int) ≤ sumBy (ind [1] σ) (List.range cols.length)⟩).sat σ) ↔ Sat cols.length cols (rgs.map (·.2)) cnt σ) := fun σ h01 => by
    have e1 : (∀ i, i < (rs ++ os2).length → ((rs ++ os2).getD i ⟨ta, x, none, List.range cols.length, false, fun σ => (cnt : Int) ≤ sumBy (ind [1] σ) (List.range cols.length)⟩).sat σ) ↔ ∀ p ∈ rs ++ os2, p.sat σ := by
      constructor
      · intro h p hp
        obtain ⟨j, hj⟩ := List.getElem?_of_mem hp
        have := h j (List.getElem?_eq_some_iff.mp hj).1
        rw [List.getD_eq_getElem?_getD, hj] at this
        exact this
      · intro h i hi
        refine h _ ?_
        rw [List.getD_eq_getElem?_getD, List.getElem?_eq_getElem hi]
        exact List.getElem_mem hi
    rw [e1]
    unfold Sat
    constructor
    · intro h
      have a := (KR.sat σ).mp fun p hp => h p (List.mem_append_left _ hp)
      have b := (KO.sat σ).mp fun p hp => h p (List.mem_append_right _ hp)
      exact ⟨h01, a, b.1, b.2⟩
    · rintro ⟨_, a, b, d⟩ p hp
      rcases List.mem_append.mp hp with hp | hp
      · exact (KR.sat σ).mpr a p hp
      · exact (KO.sat σ).mpr ⟨b, d⟩ p hp
  have C1 := Chg.weaken (k03.trans k4) S.chg
  refine wpAny_call (codeAny_mono (getSol_spec (Q := fun v s' => Q v s') (n := cols.length) (D := D) (N := (rs ++ os2).length) (pr := fun j => (rs ++ os2).getD j ⟨ta, x, none, List.range cols.length, false, fun σ => (cnt : Int) ≤ sumBy (ind [1] σ) (List.range cols.length)⟩) (fr := (Lc, lo [("problem", .ref pb), ("count", .int cnt tc)]) :: fr) (hA.deeper (k := 27) |>.le (by decide)) (Around.frames_deeper hfr) (hF.cons rfl (by intro z; cases z)) h1 (T4.mono h2.get)
    (k35.get _ _ gp3) (gpd3.mono k35) sysV (gvd.mono k35) (B.mono k35) n3 n6 hP (by rw [range_getD (f := fun p : PreC => Value.ref p.ta)]; have := gcl.mono h2; rwa [List.map_map] at this)
    ((k13.trans k35).get _ _ gsv) (gsdx.mono (k13.trans k35)) h3 (fun s' hno c3 L3 => hN s' (fun σ hs => hno σ hs.1 ((hsat σ hs.1).mpr hs)) (C1.trans (Chg.weaken k05 c3)) (out_tail (L3.weaken k05)))
    (fun s' r a σ h01 hs hperm hlk c3 L3 hr => hY s' r a σ ((hsat σ h01).mp hs) hperm hlk (C1.trans (Chg.weaken k05 c3)) (out_tail3 (L3.weaken k05)) hr)) fun r s' z => by rcases r with e | (_ | _ | _ | _) <;> exact z)
end
end Mine
end

section
open PySem PySem.W PySem.Calls PyProof.Rows
namespace Mine

section
variable {w : World} {A : Around} {s : Shared} {env : Env}

abbrev turnTree2 (ipos : Pos) (target : Expr) (ifs : List Expr) (it : Value) (env : Env) (tail skip : Sem Fin) : Sem Fin :=
  standAt ipos >>= fun _ => pyNext it >>= fun r => match r with
    | none => pure (.done .next)
    | some v => letOwnedTupleGo target it v >>= fun _ => assign target env v >>= fun _ => tests ifs env >>= fun ok => if ok = true then tail else skip

/-- as r_cloop, whatever stands behind the tests -/
theorem r_cloop2 {ι : Type} {c : Cx} {P : List (Addr × (Obj → Prop))} {e : Expr} {d : Nat} {ipos : Pos} {target : Expr} {ifs : List Expr} {I : Addr} {acc : Value} {tail : Sem Fin} {n : Nat} {val : Nat → Value → Prop} {φ : Nat → Obj → Prop} {src : Heap → Prop}
    {R : Result → Shared → Prop} (X' : It w A I n val φ src) (inv : Nat → Loc → Loc → Sto ι → Prop) {m cm : Loc} {S : Sto ι} (h0 : inv 0 m cm S) (X : St c (P ++ [(I, φ 0)]) m cm S s)
    (hsrc : ∀ i P' m cm S s, inv i m cm S → St c P' m cm S s → src s.heap)
    (turn : ∀ i ψ m cm S s v, i < n → inv i m cm S → val i v → St c (P ++ [(I, ψ)]) m cm S s → WA w A (assign target env v) (fun _ s₂ => WA w A (tests ifs env) (fun ok s₃ =>
      if ok = true then WA w A tail (fun fin s₄ => fin = .again (.compLoop e d (.ref I) acc env) ∧ TurnC c P I ψ (inv (i + 1)) s₄) s₃ else TurnC c P I ψ (inv (i + 1)) s₃) s₂) s)
    (fin : ∀ m cm S s, inv n m cm S → St c P m cm S s → R (.ok .next) s)
    (hf : (Code.compLoop e d (.ref I) acc env).isFrame = false := by rfl) (hq : (Code.compLoop e d (.ref I) acc env).quiet = true := by rfl)
    (hw : (Code.compLoop e d (.ref I) acc env).weight = 0 := by rfl) (hu : (Code.compLoop e d (.ref I) acc env).cUnits = 0 := by rfl)
    (he : compTurn e d (.ref I) acc env = turnTree2 ipos target ifs (.ref I) env tail (again (.compLoop e d (.ref I) acc env)) := by with_unfolding_all rfl) :
    codeAny (model Pr w) A (.compLoop e d (.ref I) acc env) R s := by
  refine codeAny_loop hq (fun k s => ∃ i m cm S, i + k = n ∧ inv i m cm S ∧ St c (P ++ [(I, φ i)]) m cm S s) (fun k s hk => ?_) n ⟨0, m, cm, S, Nat.zero_add _, h0, X⟩
  obtain ⟨i, m, cm, S, hik, hinv, X⟩ := hk
  have hd : denote table (.compLoop e d (.ref I) acc env) = (compTurn e d (.ref I) acc env).onRaise (fun x => do noteFrame x env; theTreesLotGoes x) := by
    show (if (Code.compLoop e d (.ref I) acc env).isFrame then _ else _) = _
    rw [hf]; rfl
  rw [Around.under_of_weight hw hu]
  show wpAny _ A (denote table (.compLoop e d (.ref I) acc env)) _ _ s
  rw [hd]
  refine wpAny_noted ?_
  rw [he]
  refine wpAny_bind (wpAny_standAt ?_)
  rcases Nat.lt_or_ge i n with hi | hi
  · refine wpAny_bind (noE (X'.item i s _ hi X.lastAt (hsrc _ _ _ _ _ _ hinv X) fun v h' tk hv hI' hext => ?_))
    have X1 := X.repin (t := tk) hI' hext
    refine wpAny_bind (noE (it_go X' X1.lastAt ?_))
    refine wpAny_bind (noE (WA.mono (turn i (φ (i + 1)) m cm S _ v hi hinv hv X1) fun _ s₂ h₂ => wpAny_bind (noE (WA.mono h₂ fun ok s₃ h₃ => ?_))))
    cases ok with
    | true =>
      refine noE (WA.mono h₃ fun fin s₄ h₄ => ?_)
      obtain ⟨rfl, m, cm, S, a, b⟩ := h₄
      exact ⟨rfl, k - 1, by omega, i + 1, m, cm, S, by omega, a, b⟩
    | false =>
      obtain ⟨m, cm, S, a, b⟩ := h₃
      exact wpAny_pure ⟨rfl, k - 1, by omega, i + 1, m, cm, S, by omega, a, b⟩
  · have e : i = n := by omega
    subst e
    refine wpAny_bind (noE (X'.done s _ X.lastAt (hsrc _ _ _ _ _ _ hinv X) fun h' tk hext => ?_))
    exact wpAny_pure (fin m cm S _ hinv (X.drop hext))

/-- a list comprehension of two clauses, without conditions -/
theorem r_comp2 {elt t1 i1 t2 i2 : Expr} {scope : Scope} {pos : Pos} {cl : List (Str × Addr)} {Q : Value → Shared → Prop} (R : Nat → List Value → Prop) (R2 : Nat → Nat → List Value → Prop) (hR : ∀ i j vs, R2 i j vs → vs.length ≤ 800)
    (h : WA w A (eval i1 env) (fun xv s₁ => ∃ n val src, Itb w A xv s₁ n val src ∧ Stat w s₁.heap ∧ R 0 [] ∧ (∀ h, Sub s₁.heap h → src h) ∧
      (∀ i vs v C D P s, i < n → R i vs → val i v → St ⟨s₁.heap, C, [], s₁⟩ P [] [] (listS [(D, LstI vs)]) s → WA w A (assign t1 (compEnvC scope cl C env) v) (fun _ s₂ => WA w A (eval i2 (compEnvC scope cl C env)) (fun xv₂ s₃ =>
        ∃ n2 val2 src2 m cm, Itb w A xv₂ s₃ n2 val2 src2 ∧ (∀ h, Sub s₁.heap h → src2 h) ∧ St ⟨s₁.heap, C, [], s₁⟩ P m cm (listS [(D, LstI vs)]) s₃ ∧ R2 i 0 vs ∧ (∀ vs, R2 i n2 vs → R (i + 1) vs) ∧
          ∀ j vs v P' s, j < n2 → R2 i j vs → val2 j v → St ⟨s₁.heap, C, [], s₁⟩ P' [] [] (listS [(D, LstI vs)]) s → WA w A (assign t2 (compEnvC scope cl C env) v) (fun _ s₄ => WA w A (eval elt (compEnvC scope cl C env)) (fun y s₅ =>
            R2 i (j + 1) (vs ++ [y]) ∧ ∃ m cm, St ⟨s₁.heap, C, [], s₁⟩ P' m cm (listS [(D, LstI vs)]) s₅) s₄) s) s₂) s) ∧
      ∀ D vs s', R n vs → Grow s₁ s' → Has s'.heap D (LstI vs) → s₁.heap.get? D = none → Q (.ref D) s') s)
    (hclos : closureFor scope env = pure cl := by with_unfolding_all rfl) (hcell : ∀ y ∈ scope.names, y.2 ≠ .cell := by decide) (hkind : scope.kind = .function := by rfl)
    (hnames : ∀ x ∈ scope.names, x.2 = .local → scope.names.lookup x.1 = some .local := by decide)
    (hs : ∀ x, foldedSetIterable i1 env x = pure x := by intro _; rfl) (hs2 : ∀ C x, foldedSetIterable i2 (compEnvC scope cl C env) x = pure x := by intro _ _; rfl) :
    WA w A (eval (.ListComp elt [⟨t1, i1, [], 0⟩, ⟨t2, i2, [], 0⟩] scope pos) env) Q s := by
  refine r_comp (WA.mono h fun xv s₁ h₁ => ?_) hclos hcell hkind hnames hs
  obtain ⟨n, val, src, B, T, r0, hsrc, turn, out⟩ := h₁
  refine ⟨n, val, src, fun D S => ∃ vs, R n vs ∧ S = listS [(D, LstI vs)], B, fun C D I φ s X' X => ?_, fun D S s' M hf => ?_⟩
  · refine r_cloop2 (ifs := []) (target := t1) (ipos := i1.pos) (tail := do
        let x ← eval i2 (compEnvC scope cl C env)
        standAt i2.pos
        let x ← foldedSetIterable i2 (compEnvC scope cl C env) x
        let _ ← runOwn (.compStart (.ListComp elt [⟨t1, i1, [], 0⟩, ⟨t2, i2, [], 0⟩] scope pos) 1 (← holding [x] (pyIter x)) (.ref D) (compEnvC scope cl C env)) (compEnvC scope cl C env)
        again (.compLoop (.ListComp elt [⟨t1, i1, [], 0⟩, ⟨t2, i2, [], 0⟩] scope pos) 0 (.ref I) (.ref D) (compEnvC scope cl C env))) X'
      (fun i m cm S => ∃ vs, R i vs ∧ m = [] ∧ cm = [] ∧ S = listS [(D, LstI vs)]) ⟨[], r0, rfl, rfl, rfl⟩ X (fun i P' m cm S s _ Y => hsrc _ Y.chg.sub) (fun i ψ m cm S s v hi hv hval S3 => ?_) fun m cm S s hv S3 => ?_
    · obtain ⟨vs, hr, rfl, rfl, rfl⟩ := hv
      refine WA.mono (turn i vs v C D _ s hi hr hval S3) fun _ s₂ h₂ => te_nil ?_
      rw [if_pos rfl]
      refine wpAny_bind (WA.mono h₂ fun xv₂ s₃ h₃ => ?_)
      obtain ⟨n2, val2, src2, m, cm, B2, hsrc2, S4, q0, q1, turn2⟩ := h₃
      refine wpAny_bind (wpAny_standAt (wpAny_bind (wpAny_of_eq (hs2 C xv₂) ?_)))
      refine wpAny_bind (wpAny_holding (B2 _ fun I2 φ2 s₄ g4 hI2 hfree X2 => ?_))
      have S5 := S4.pin g4 hI2 hfree
      have S6 := S5.weaken (m' := []) (cm' := []) (fun x v e => by cases e) (fun x v e => by cases e) fun l a φ' e => ⟨φ', e, fun _ q => q⟩
      refine wpAny_bind (wpAny_runOwn ?_)
      have inner : codeAny (model Pr w) A (.compStart (.ListComp elt [⟨t1, i1, [], 0⟩, ⟨t2, i2, [], 0⟩] scope pos) 1 (.ref I2) (.ref D) (compEnvC scope cl C env))
          (fun r s' => (∃ f, r = .ok f) ∧ ∃ vs, R (i + 1) vs ∧ ∃ m cm, St ⟨s₁.heap, C, [], s₁⟩ ([] ++ [(I, ψ)]) m cm (listS [(D, LstI vs)]) s') s₄ := by
        refine r_cstart (ipos := i2.pos) X2 S6.lastAt ?_
        refine r_cloop (ifs := []) (target := t2) (ipos := i2.pos) (emit := do let _ ← call (.builtin "list.append") [.ref D, ← eval elt (compEnvC scope cl C env)]) X2 (fun j m cm S => ∃ vs, R2 i j vs ∧ m = [] ∧ cm = [] ∧ S = listS [(D, LstI vs)])
          ⟨vs, q0, rfl, rfl, rfl⟩ S6 (fun i P' m cm S s _ Y => hsrc2 _ Y.chg.sub) (fun j ψ2 m cm S s v hj hv hval2 S7 => ?_) fun m cm S s hv S7 => ?_
        · obtain ⟨vs, hr2, rfl, rfl, rfl⟩ := hv
          refine WA.mono (turn2 j vs v _ s hj hr2 hval2 S7) fun _ s₅ h₅ => te_nil ?_
          rw [if_pos rfl]
          refine em_list (WA.mono h₅ fun y s₆ h₆ => ?_)
          obtain ⟨hr', m, cm, S8⟩ := h₆
          refine b_append (S8.stat T) (S8.at (l := 0) rfl) (by have := hR _ _ _ hr2; omega) fun h' h1 h2 => ?_
          have S9 := (S8.set (l := 0) (t := s₆.toks) rfl h1 h2).sto (S' := listS [(D, LstI (vs ++ [y]))]) listS_set0
          exact ⟨_, _, _, ⟨_, hr', rfl, rfl, rfl⟩, S9.weaken (m' := []) (cm' := []) (fun x v e => by cases e) (fun x v e => by cases e) fun l a φ' e => ⟨φ', e, fun _ q => q⟩⟩
        · obtain ⟨vs, hr2, rfl, rfl, rfl⟩ := hv
          exact ⟨⟨_, rfl⟩, vs, q1 vs hr2, _, _, S7⟩
      refine codeAny_mono inner fun r s' hr' => ?_
      obtain ⟨⟨f, rfl⟩, vs', hr'', m', cm', S10⟩ := hr'
      exact wpAny_pure ⟨rfl, _, _, _, ⟨vs', hr'', rfl, rfl, rfl⟩, S10.weaken (m' := []) (cm' := []) (fun x v e => by cases e) (fun x v e => by cases e) fun l a φ' e => ⟨φ', e, fun _ q => q⟩⟩
    · obtain ⟨vs, hr, rfl, rfl, rfl⟩ := hv
      exact ⟨⟨_, rfl⟩, _, _, _, _, S3, vs, hr, rfl⟩
  · obtain ⟨vs, hr, rfl⟩ := hf
    have := M.led.has 0 _ _ rfl
    exact out D vs s' hr M.grow this.1 this.2

-- set comprehensions of ints
theorem em_set {elt : Expr} {acc : Value} {Q : Unit → Shared → Prop} (h : WA w A (eval elt env) (fun y s₁ => WA w A (call (.builtin "set.add") [acc, y]) (fun _ s₂ => Q () s₂) s₁) s) :
    WA w A (do let v ← eval elt env; standAt elt.pos; let _ ← call (.builtin "set.add") [acc, v]) Q s :=
  wpAny_bind (WA.mono h fun y s₁ h₁ => wpAny_bind (wpAny_standAt (wpAny_bind (WA.mono h₁ fun _ s₂ h₂ => wpAny_pure h₂))))

/-- what a set comprehension wants: ns i are the ints gathered from the first i items -/
structure SetIn (w : World) (A : Around) (cenv : Addr → Env) (target elt : Expr) (ifs : List Expr) (s₁ : Shared) (n : Nat) (val : Nat → Value → Prop) (src : Heap → Prop) (ns : Nat → List Int) : Prop where
  start : ns 0 = []
  src : ∀ h, Sub s₁.heap h → src h
  turn : ∀ i v C D P s, i < n → val i v → St ⟨s₁.heap, C, [], s₁⟩ P [] [] (listS [(D, SetN w (ns i))]) s →
    WA w A (assign target (cenv C) v) (fun _ s₂ => WA w A (tests ifs (cenv C)) (fun ok s₃ =>
      if ok = true then WA w A (eval elt (cenv C)) (fun y s₄ => (∃ k t, y = .int k t ∧ ns (i + 1) = ns i ++ [k]) ∧ ∃ m cm, St ⟨s₁.heap, C, [], s₁⟩ P m cm (listS [(D, SetN w (ns i))]) s₄) s₃
      else ns (i + 1) = ns i ∧ ∃ m cm, St ⟨s₁.heap, C, [], s₁⟩ P m cm (listS [(D, SetN w (ns i))]) s₃) s₂) s
theorem set_loop {elt target iter : Expr} {ifs : List Expr} {scope : Scope} {pos : Pos} {cl : List (Str × Addr)} {s₁ : Shared} {n : Nat} {val : Nat → Value → Prop} {src : Heap → Prop} {ns : Nat → List Int}
    (K : SetIn w A (fun C => compEnvC scope cl C env) target elt ifs s₁ n val src ns) (hR : ∀ i, i ≤ n → (ns i).length ≤ 800) {C D I : Addr} {φ : Nat → Obj → Prop} {s : Shared} (X' : It w A I n val φ src)
    (X : St ⟨s₁.heap, C, [], s₁⟩ ([] ++ [(I, φ 0)]) [] [] (listS [(D, SetN w [])]) s) :
    codeAny (model Pr w) A (.compLoop (.SetComp elt [⟨target, iter, ifs, 0⟩] scope pos) 0 (.ref I) (.ref D) (compEnvC scope cl C env))
      (fun r s' => (∃ f, r = .ok f) ∧ ∃ P m cm S, St ⟨s₁.heap, C, [], s₁⟩ P m cm S s' ∧ S = listS [(D, SetN w (ns n))]) s := by
  rw [← K.start] at X
  refine r_cloop (ipos := iter.pos) (ifs := ifs) (target := target) (emit := do let v ← eval elt (compEnvC scope cl C env); standAt elt.pos; let _ ← call (.builtin "set.add") [.ref D, v]) X' (fun i m cm S => i ≤ n ∧ m = [] ∧ cm = [] ∧ S = listS [(D, SetN w (ns i))]) ⟨Nat.zero_le _, rfl, rfl, rfl⟩ X (fun i P' m cm S s _ Y => K.src _ Y.chg.sub) (fun i ψ m cm S s v hi hv hval S3 => ?_) fun m cm S s hv S3 => ?_
  · obtain ⟨hin, rfl, rfl, rfl⟩ := hv
    refine WA.mono (K.turn i v C D _ s hi hval S3) fun _ s₂ h₂ => WA.mono h₂ fun ok s₃ h₃ => ?_
    cases ok with
    | true =>
      rw [if_pos rfl] at h₃ ⊢
      refine em_set (WA.mono h₃ fun y s₄ h₄ => ?_)
      obtain ⟨⟨k, t, rfl, hk⟩, m, cm, S4⟩ := h₄
      refine set_add (S4.at (l := 0) rfl) (by have := hR i hin; omega) fun h' tk h1 h2 => ?_
      have S5 := (S4.set (l := 0) (t := tk) rfl h1 h2).sto (S' := listS [(D, SetN w (ns i ++ [k]))]) listS_set0
      exact ⟨_, _, _, ⟨hi, rfl, rfl, by rw [hk]⟩, S5.weaken (m' := []) (cm' := []) (fun x v e => by cases e) (fun x v e => by cases e) fun l a φ' e => ⟨φ', e, fun _ q => q⟩⟩
    | false =>
      rw [if_neg (by decide)] at h₃ ⊢
      obtain ⟨hk, m, cm, S4⟩ := h₃
      exact ⟨_, _, _, ⟨hi, rfl, rfl, by rw [hk]⟩, S4.weaken (m' := []) (cm' := []) (fun x v e => by cases e) (fun x v e => by cases e) fun l a φ' e => ⟨φ', e, fun _ q => q⟩⟩
  · obtain ⟨_, rfl, rfl, rfl⟩ := hv
    exact ⟨⟨_, rfl⟩, _, _, _, _, S3, rfl⟩
theorem r_setG {elt target iter : Expr} {ifs : List Expr} {scope : Scope} {pos : Pos} {cl : List (Str × Addr)} {Q : Value → Shared → Prop} (ns : Nat → List Int)
    (h : WA w A (eval iter env) (fun xv s₁ => ∃ n val src, Itb w A xv s₁ n val src ∧ (∀ i, i ≤ n → (ns i).length ≤ 800) ∧ SetIn w A (fun C => compEnvC scope cl C env) target elt ifs s₁ n val src ns ∧
      ∀ D s', Grow s₁ s' → Has s'.heap D (SetN w (ns n)) → s₁.heap.get? D = none → Q (.ref D) s') s)
    (hclos : closureFor scope env = pure cl := by with_unfolding_all rfl) (hcell : ∀ y ∈ scope.names, y.2 ≠ .cell := by decide) (hkind : scope.kind = .function := by rfl)
    (hnames : ∀ x ∈ scope.names, x.2 = .local → scope.names.lookup x.1 = some .local := by decide)
    (hs : ∀ x, foldedSetIterable iter env x = pure x := by intro _; rfl) :
    WA w A (eval (.SetComp elt [⟨target, iter, ifs, 0⟩] scope pos) env) Q s := by
  rw [arm_eval_SetComp]
  refine wpAny_comprehension_free (use := none) rfl hs hclos hkind hnames (WA.mono h fun xv s₁ h₁ => ?_)
  obtain ⟨n, val, src, B, hR, K, out⟩ := h₁
  refine B _ fun I φ s₂ g₂ hI hfree X' => ?_
  refine comp_in (RR := fun acc C => compPost (model Pr w) A (fun _ _ => False) none Q acc C) new_set hcell hkind g₂ hI hfree fun C D s₃ X₃ => ?_
  refine r_cstart (ipos := iter.pos) X' X₃.lastAt (codeAny_mono (set_loop K hR X' X₃) fun r s' hr => ?_)
  obtain ⟨⟨f, rfl⟩, P, m, cm, S, X₄, rfl⟩ := hr
  obtain ⟨M, hM⟩ := locNs (X₄.own.has .loc C _ rfl).2
  refine ⟨M, hM, fun h' hs' => ?_⟩
  have M := Made.out X₄ hs'.extBut
  have := M.led.has 0 _ _ rfl
  exact out D _ M.grow this.1 this.2
theorem r_assignSetG {ι : Type} [DecidableEq ι] {elt target iter : Expr} {ifs : List Expr} {scope : Scope} {pos spos py : Pos} {y : Str} {cl : List (Str × Addr)} {rs : List Stmt} {Q : Flow → Shared → Prop} (ns : Nat → List Int) (lab : ι)
    (h : WA w A (eval iter env) (fun xv s₁ => ∃ n val src, Itb w A xv s₁ n val src ∧ (∀ i, i ≤ n → (ns i).length ≤ 800) ∧ SetIn w A (fun C => compEnvC scope cl C env) target elt ifs s₁ n val src ns ∧
      ∃ (c : Cx) (P : List (Addr × (Obj → Prop))) (m cm : Loc) (S : Sto ι), env.locals = c.L ∧ St c P m cm S s₁ ∧
        ∀ D s'', St c P ((y, .ref D) :: m) cm (updS S lab (D, SetN w (ns n))) s'' → WA w A (execs rs env) Q s'') s)
    (hsw : swapsWith (.SetComp elt [⟨target, iter, ifs, 0⟩] scope pos) (some (.Name y py)) spos.line env = pure true := by with_unfolding_all rfl)
    (hclos : closureFor scope env = pure cl := by with_unfolding_all rfl) (hcell : ∀ y ∈ scope.names, y.2 ≠ .cell := by decide) (hkind : scope.kind = .function := by rfl)
    (hnames : ∀ x ∈ scope.names, x.2 = .local → scope.names.lookup x.1 = some .local := by decide)
    (hk : env.scope.kind = .function := by rfl) (hl : env.kindOf y = some .local := by rfl)
    (hs : ∀ x, foldedSetIterable iter env x = pure x := by intro _; rfl) :
    WA w A (execs (.Assign [.Name y py] (.SetComp elt [⟨target, iter, ifs, 0⟩] scope pos) spos :: rs) env) Q s := by
  refine r_seq ?_
  rw [exec_Assign_Name_used _ _ _ _ hsw]
  refine wpAny_bind (wpAny_standAt (wpAny_bind ?_))
  show wpAny _ A (do let _ ← comprehension (.SetComp elt [⟨target, iter, ifs, 0⟩] scope pos) scope env _ (newSet (.type "set")) false (eval iter env) (some (assign (.Name y py) env))) _ _ s
  refine wpAny_bind (wpAny_mono (wpAny_comprehension_free (use := some (assign (.Name y py) env)) (Q := fun _ s' => WA w A (execs rs env) Q s') rfl hs hclos hkind hnames
    (WA.mono h fun xv s₁ h₁ => ?_)) (fun _ s' hq => wpAny_pure (wpAny_pure hq)) fun _ _ e => e)
  obtain ⟨n, val, src, B, hR, K, c, P, m, cm, S, hL, X₁, out⟩ := h₁
  refine B _ fun I φ s₂ g₂ hI hfree X' => ?_
  refine comp_in (RR := fun acc C => compPost (model Pr w) A (fun _ _ => False) (some (assign (.Name y py) env)) (fun _ s' => WA w A (execs rs env) Q s') acc C) new_set hcell hkind g₂ hI hfree fun C D s₃ X₃ => ?_
  refine r_cstart (ipos := iter.pos) X' X₃.lastAt (codeAny_mono (set_loop K hR X' X₃) fun r s' hr => ?_)
  obtain ⟨⟨f, rfl⟩, P₂, m₂, cm₂, S', X₄, rfl⟩ := hr
  have hmrg : Mrg S (listS [(D, SetN w (ns n))]) (updS S lab (D, SetN w (ns n))) := Mrg.upd
  have M : Made s₁ s' (listS [(D, SetN w (ns n))]) := Made.out (h' := s'.heap) X₄ fun _ _ _ e => e
  have hC1 : s₁.heap.get? C = none := (X₄.own.has .loc C _ rfl).1
  have X₅ : St c (P ++ [(C, locP m₂)]) m cm (updS S lab (D, SetN w (ns n))) s' := by
    refine (X₁.merge M hmrg).pinAny (X₁.chg.sub.none hC1) (X₄.own.has .loc C _ rfl).2 fun t a φ e => ?_
    obtain ⟨f, hm⟩ := hmrg
    rcases mkW_old hm e with h | ⟨j, rfl, h⟩
    · obtain ⟨_, o, ho, _⟩ := X₁.own.has t a φ h
      rintro rfl
      rw [hC1] at ho; cases ho
    · rintro rfl
      have := X₄.own.inj (.lab j) .loc a φ _ h rfl
      cases this
  show wpAny _ A (assign (.Name y py) env (.ref D)) _ _ s'
  refine a_name (r_store X₅ (fun s'' X₆ => ?_) hL hk hl)
  obtain ⟨M₂, hM₂⟩ := locNs X₆.lastAt
  refine ⟨M₂, hM₂, fun h' hs' => ?_⟩
  exact out D _ (X₆.drop (t := s''.toks) hs'.extBut)
/-- len of a set -/
theorem b_lenSet {d : Addr} {ns : List Int} {Q : Value → Shared → Prop} (hd : Has s.heap d (SetN w ns)) (h : ∀ (us : List Int) t s', us.Nodup → (∀ k, k ∈ us ↔ k ∈ ns) → us.length ≤ 2000 → Grow s s' → Q (.int us.length t) s') (hz : ∀ us : List Int, us.Nodup → (∀ k, k ∈ us ↔ k ∈ ns) → us.length ≤ 2000) : WA w A (call (.builtin "len") [.ref d]) Q s := by
  obtain ⟨o, ho, us, hn, hm, hex, es, ep, t, hd, hel, hmem, hsz, hf⟩ := hd
  have hz' := hz us hn hm
  refine call_len_set ho hex hd hf (by omega) ?_
  rw [hsz]
  exact h us _ _ hn hm hz' (Grow.tok s _)
end
end Mine
end

section
open PySem PySem.W PySem.Calls PyProof.Rows
namespace Mine

-- what the law speaks of
def chosenOf (n part : Nat) : List Nat := (List.range n).filter fun k => part.testBit k
def qsOf (rds ch : List Nat) : List Nat := ch.map fun k => rds.getD k 0
def endsQ (qs : List Nat) : List Nat := qs.flatMap fun q => [(pairN q).1, (pairN q).2]
def ringQ (qs : List Nat) : Bool := !qs.isEmpty && (endsQ qs).all fun p => (endsQ qs).count p == 2
def othersOf (n : Nat) (ch : List Nat) : List Nat := (List.range n).filter fun k => !ch.contains k
def colsOf (cols l : List Nat) : List Nat := l.map fun k => cols.getD k 0
def ncol (cs : List Nat) : Nat := ((List.range 3).filter fun c => cs.contains c).length
def valP (n : Nat) (rds cols : List Nat) (part : Nat) : Nat := rank (qsOf rds (chosenOf n part)) + ncol (colsOf cols (othersOf n (chosenOf n part)))
def leastP (n : Nat) (rds cols : List Nat) (i : Nat) : Nat := (List.range i).foldl (fun m p => min m (valP n rds cols p)) n
def ringsP (n : Nat) (rds : List Nat) (i : Nat) : List (List Nat) := ((List.range i).filter fun p => ringQ (qsOf rds (chosenOf n p))).map (chosenOf n)
def takenOf (n : Nat) (σ : Nat → Int) : List Nat := (List.range n).filter fun k => σ k == 1
/-- what the law asks, in plain words -/
structure PureOk (n : Nat) (rds cols : List Nat) : Prop where
  ex : ∃ σ, Sat n cols (ringsP n rds (2 ^ n)) (leastP n rds cols (2 ^ n)) σ
  good : ∀ σ, Sat n cols (ringsP n rds (2 ^ n)) (leastP n rds cols (2 ^ n)) σ → leastP n rds cols (2 ^ n) ≤ (takenOf n σ).length ∧ (takenOf n σ).length ≤ rank (qsOf rds (takenOf n σ)) ∧ (takenOf n σ).length ≤ ncol (colsOf cols (takenOf n σ))
  no : ∀ σ, ¬ Sat n cols (ringsP n rds (2 ^ n)) (leastP n rds cols (2 ^ n) + 1) σ

theorem leastP_succ (n : Nat) (rds cols : List Nat) (i : Nat) : leastP n rds cols (i + 1) = min (leastP n rds cols i) (valP n rds cols i) := by
  unfold leastP; rw [List.range_succ, List.foldl_append]; rfl
theorem leastP_le (n : Nat) (rds cols : List Nat) (i : Nat) : leastP n rds cols i ≤ n := by
  induction i with
  | zero => exact Nat.le_refl _
  | succ i ih => rw [leastP_succ]; omega
theorem ringsP_succ (n : Nat) (rds : List Nat) (i : Nat) : ringsP n rds (i + 1) = ringsP n rds i ++ if ringQ (qsOf rds (chosenOf n i)) = true then [chosenOf n i] else [] := by
  unfold ringsP
  rw [List.range_succ, List.filter_append, List.map_append]
  congr 1
  by_cases h : ringQ (qsOf rds (chosenOf n i)) = true
  · rw [if_pos h, List.filter_cons, if_pos h]; rfl
  · rw [if_neg h, List.filter_cons, if_neg h]; rfl
theorem chosen_lt {n part k : Nat} (h : k ∈ chosenOf n part) : k < n := List.mem_range.mp (List.mem_filter.mp h).1
theorem chosen_len (n part : Nat) : (chosenOf n part).length ≤ n := by
  have := List.length_filter_le (fun k => part.testBit k) (List.range n)
  rw [List.length_range] at this; exact this
theorem ncol_card {cs : List Nat} {us : List Int} (h3 : ∀ c ∈ cs, c < 3) (hn : us.Nodup) (hm : ∀ k, k ∈ us ↔ k ∈ natsV cs) : us.length = ncol cs := by
  unfold ncol
  rw [← List.length_map (f := fun (x : Nat) => (x : Int))]
  refine (perm_of_mem hn (nodup_map_cast (List.Pairwise.filter _ List.nodup_range)) fun x => ?_).length_eq
  rw [hm x]
  constructor
  · intro hx
    obtain ⟨c, hc, rfl⟩ := List.mem_map.mp hx
    exact List.mem_map.mpr ⟨c, List.mem_filter.mpr ⟨List.mem_range.mpr (h3 c hc), by simpa using hc⟩, rfl⟩
  · intro hx
    obtain ⟨c, hc, rfl⟩ := List.mem_map.mp hx
    have := (List.mem_filter.mp hc).2
    exact List.mem_map.mpr ⟨c, by simpa using this, rfl⟩
theorem bit_and {p k : Nat} : (Builtin.bitAnd (((p : Nat) : Int).fdiv (2 ^ k)) 1 != 0) = p.testBit k := by
  have e : ((p : Int).fdiv (2 ^ k)) = ((p / 2 ^ k : Nat) : Int) := by
    rw [Int.fdiv_eq_ediv_of_nonneg _ (by exact_mod_cast Nat.zero_le _)]
    norm_cast
  rw [e, bitAnd_pp (Int.natCast_nonneg _) (by decide)]
  rw [Int.toNat_natCast, show (1 : Int).toNat = 1 from rfl, Nat.and_one_is_mod]
  rw [Nat.testBit_eq_decide_div_mod_eq]
  have : p / 2 ^ k % 2 = 0 ∨ p / 2 ^ k % 2 = 1 := by omega
  rcases this with h | h <;> rw [h] <;> rfl

section
variable {w : World} {A : Around} {s : Shared} {env : Env}
theorem b_sortN {l : Addr} {vs : List Value} {ns : List Int} {Q : Value → Shared → Prop} (T : Stat w s.heap) (hl : Has s.heap l (LstI vs)) (iv : IntsAre vs ns) (hz : vs.length < 64)
    (h : ∀ h' ms, ms.Perm ns → ms.Pairwise (· ≤ ·) → Has h' l (LstN ms) → (∀ b o, b ≠ l → s.heap.get? b = some o → h'.get? b = some o) → Q .none { s with heap := h' }) : WA w A (call (.builtin "list.sort") [.ref l]) Q s := by
  obtain ⟨n, hl⟩ := hl.out
  refine wpAny_call_entry PyProof.Rows.slot_list_sort ⟨_, hl, rfl⟩ PyProof.Rows.entry_list_sort (list_sort_tree (n := n) (vs := vs) hl iv hz fun out ns' hI hp hP => ⟨.none, rfl, ?_⟩) (PyProof.Rows.args_list_sort _)
  obtain ⟨e, he⟩ := sortedHeap_at (out := out) hl
  refine h _ ns' hp hP (Has.ofInts hI (Has.seq (n := e) ?_)) fun b o hb ho => ?_
  · rw [he]
  · rw [sortedHeap_old hb (Heap.lt_size ho)]; exact ho
/-- sorted(d): the keys in order -/
theorem b_sortedDict {d : Addr} {kvs : List (Int × Value)} {Q : Value → Shared → Prop} (hh : A.handled = none) (T : Stat w s.heap) (lo : (d == sysModules) = false) (hd : Has s.heap d (DicK w kvs)) (hz : kvs.length < 64)
    (h : ∀ l s' ms, Grow s s' → ms.Perm (kvs.map (·.1)) → ms.Pairwise (· ≤ ·) → Has s'.heap l (LstN ms) → s.heap.get? l = none → Q (.ref l) s') : WA w A (call (.builtin "sorted") [.ref d]) Q s := by
  obtain ⟨ep, hd⟩ := hd.ep
  refine call_function_entry kind_sorted plain_sorted entry_sorted (args_sorted1 _) ?_
  unfold Builtin.«sorted»
  refine wpAny_bind (m := _) (wpAny_pure ?_)
  refine wpAny_bind (kdu_collect (A := A.in1) (kdl_dict (knd := KI w) (kvs := kvs) (ep := ep) lo) hh hd.dictAt (by rw [sizeLine_eq]; omega) fun h' tk acc hk hacc => ?_)
  have hl : acc.toList.length = kvs.length := by rw [Array.length_toList]; exact hacc.1
  have iv : IntsAre acc.toList (kvs.map (·.1)) := intsOf (by rw [hl, List.length_map]) fun i v hv => by
    obtain ⟨k, x, e1, e2⟩ := hacc.2 i v (by rw [← Array.getElem?_toList]; exact hv)
    obtain ⟨t, rfl⟩ := Value.isInt_shape e2
    exact ⟨k, t, by rw [List.getElem?_map, e1]; rfl, rfl⟩
  refine wpAny_bind (wpAny_newList ?_ (by rw [hl, sizeLine_eq]; omega))
  have nl : s.heap.get? h'.objs.size = none := by
    cases q : s.heap.get? h'.objs.size with
    | none => rfl
    | some o => exact absurd (Heap.lt_size (hk _ _ q)) (Nat.lt_irrefl _)
  have k2 : ∀ b o, s.heap.get? b = some o → (h'.push { cls := .type "list", data := .seq acc.toList.toArray }).get? b = some o := fun b o e => Heap.get?_push_of_some _ (hk b o e)
  refine wpAny_bind (wpAny_holding (b_sortN (w := w) (A := A.in1) (s := { s with heap := h'.push { cls := .type "list", data := .seq acc.toList.toArray }, toks := tk }) (l := h'.objs.size) (vs := acc.toList) (T.mono k2) (Has.seq (n := 0) (Heap.get?_push_size _ rfl)) iv (by omega) fun h2 ms p1 p2 h3 h4 => ?_))
  refine wpAny_pure ⟨_, rfl, ?_⟩
  refine h h'.objs.size _ ms ⟨⟨fun b o e => h4 b o (fun q => by rw [q, nl] at e; cases e) (k2 b o e)⟩, .refl _, rfl, rfl⟩ p1 p2 h3 nl
end
end Mine
end

section
open PySem PySem.W PySem.Calls PyProof.Rows
namespace Mine

abbrev S00 : Sto Lab := cS D00 0 Z0 (addE noS2 (outS []))
theorem s00 (l : Lab) : S00 l = none := by
  unfold S00 cS domS addE outS
  by_cases q : l.1 < 3
  · rw [if_pos q, if_neg (by omega)]
  · rw [if_neg q]
    by_cases q2 : l.1 < 30
    · rw [if_pos q2]
    · rw [if_neg q2]
      split <;> rfl
section
variable {g : Heap} {L : Addr} {cs : List (Str × Addr)} {s0 s : Shared} {P : List (Addr × (Obj → Prop))} {m cm : Loc}
theorem St.freezeOne {l : Lab} {a : Addr} {φ : Obj → Prop} (Y : St ⟨g, L, cs, s0⟩ P m cm (updS S00 l (a, φ)) s) : ∃ g', Sub g g' ∧ St ⟨g', L, cs, s0⟩ P m cm S00 s ∧ Has g' a φ := by
  obtain ⟨g', h1, _, h3, h4⟩ := Y.freeze (S' := S00) (fun l p e => by rw [s00] at e; cases e)
  exact ⟨g', h1, h3, h4 l a φ (by unfold updS; rw [if_pos rfl]) (s00 l)⟩
end
def restN : List Int := [3, 0, 6, 13, 14, 0, 15]
def drN (ns : List Int) (k : Nat) : Int := if k < ns.length then ns.getD k 0 else restN.getD k 0
theorem restTup {w : World} {h : Heap} (T : Stat w h) : ∃ vs, IntsAre vs restN ∧ Has h 402 (TupI vs) :=
  ⟨_, .cons 3 _ (.cons 0 _ (.cons 6 _ (.cons 13 _ (.cons 14 _ (.cons 0 _ (.cons 15 _ .nil)))))), _, T.K 402 _ (by exact rfl), 0, rfl⟩
theorem pairsTup {w : World} {h : Heap} (T : Stat w h) : Has h 409 (TupI ((List.range 6).map fun q => Value.ref (403 + q))) := ⟨_, T.K 409 _ (by exact rfl), 0, rfl⟩
theorem ng_rest {w : World} : nsIn (Kf w) mainGlobals "_law_rest" = some (some (.ref 402)) := by kernel_rfl
theorem ng_pairs {w : World} : nsIn (Kf w) mainGlobals "_law_pairs" = some (some (.ref 409)) := by kernel_rfl
theorem ng_rank {w : World} : nsIn (Kf w) mainGlobals "_law_rank" = some (some (.ref 414)) := by kernel_rfl
theorem ng_choice {w : World} : nsIn (Kf w) mainGlobals "_law_choice" = some (some (.ref 419)) := by kernel_rfl
theorem nb_min {w : World} : nsIn (Kf w) mainGlobals "min" = some none := by kernel_rfl
theorem bt_min : bootBuiltins "min" = some (.builtin "min") := by kernel_rfl
theorem nb_sorted {w : World} : nsIn (Kf w) mainGlobals "sorted" = some none := by kernel_rfl
theorem bt_sorted : bootBuiltins "sorted" = some (.builtin "sorted") := by kernel_rfl
theorem out_cs {D : Nat → DA} {n : Nat} {Z : DSt} {fr : List (Addr × Loc)} : ∀ l p, outS fr l = some p → cS D n Z (addE noS2 (outS fr)) l = some p := by
  intro l p e
  have e0 := e
  unfold outS at e
  by_cases z : l.1 = 30
  · unfold cS addE
    rw [if_neg (by omega), if_neg (by omega)]; exact e0
  · rw [if_neg z] at e; cases e
theorem push_back {L : Addr} {m : Loc} {q : Addr × (Obj → Prop)} : ∀ l p, pushL (L, locP m) (fun l => if l = (3, 0) then some q else none) l = some p → updS (outS [(L, m)]) (3, 0) q l = some p := by
  intro l p e
  unfold pushL at e
  unfold updS outS
  by_cases z : l.1 = 30
  · rw [if_pos z] at e
    rw [if_neg (by rintro rfl; exact absurd z (by decide)), if_pos z]
    obtain ⟨a, b⟩ := l
    dsimp only at z e ⊢
    cases b with
    | zero => exact e
    | succ b =>
      dsimp only at e
      rw [if_neg (by intro y; have := congrArg Prod.fst y; exact absurd this (by show ¬ (30 : Nat) = 3; decide))] at e; cases e
  · rw [if_neg z] at e
    have e : (if l = (3, 0) then some q else none) = some p := e
    by_cases z2 : l = (3, 0)
    · rw [if_pos z2] at e ⊢; exact e
    · rw [if_neg z2] at e; cases e
theorem kv_keys : ∀ {kvs : List (Int × Value)} {a : List (Int × Int)}, KvI kvs a → kvs.map (·.1) = a.map (·.1)
  | _, _, .nil => rfl
  | _, _, .cons k v t h => by rw [List.map_cons, List.map_cons, kv_keys h]
theorem sorted_uniq : ∀ {a b : List Int}, a.Perm b → a.Pairwise (· ≤ ·) → b.Pairwise (· ≤ ·) → a = b := fun p ha hb => lks_uniq p ha hb
theorem range_sorted (n : Nat) : (natsV (List.range n)).Pairwise (· ≤ ·) := by
  unfold natsV
  rw [List.pairwise_map]
  refine List.Pairwise.imp (fun {a b} h => ?_) (List.pairwise_lt_range (n := n))
  omega
theorem count_cast (l : List Nat) (p : Nat) : (natsV l).count (p : Int) = l.count p := by
  induction l with
  | nil => rfl
  | cons a r ih =>
    show ((a : Int) :: natsV r).count (p : Int) = _
    rw [List.count_cons, List.count_cons, ih]
    congr 1
    by_cases h : a = p
    · subst h; simp
    · have : ((a : Int) == (p : Int)) = false := by rw [beq_eq_false_iff_ne]; omega
      rw [this, show (a == p) = false from beq_eq_false_iff_ne.mpr h]
theorem ring_iff {rds ch : List Nat} (hne : ch ≠ []) : ringQ (qsOf rds ch) = decide (natsV ((endsQ (qsOf rds ch)).filter fun p => (endsQ (qsOf rds ch)).count p != 2) = []) := by
  unfold ringQ
  have h1 : (qsOf rds ch).isEmpty = false := by
    cases ch with
    | nil => exact absurd rfl hne
    | cons a r => rfl
  rw [h1, Bool.not_false, Bool.true_and, Bool.eq_iff_iff, decide_eq_true_iff, List.map_eq_nil_iff, List.filter_eq_nil_iff, List.all_eq_true]
  simp
theorem fmod_nat (a : Int) {b : Int} (hb : 0 < b) : ∃ M : Nat, a.fmod b = M ∧ (M : Int) < b := by
  have h1 := Int.fmod_nonneg_of_pos a hb
  have h2 := Int.fmod_lt_of_pos a hb
  exact ⟨(a.fmod b).toNat, by omega, by omega⟩

section
variable {w : World} {A : Around} {s0 : Shared}
theorem law_spec {la : Addr} {ns : List Int} {Q : Value → Shared → Prop} (hpure : ∀ rds cols : List Nat, 3 ≤ rds.length → rds.length ≤ 6 → cols.length = rds.length → (∀ q ∈ rds, q < 6) → (∀ c ∈ cols, c < 3) → PureOk rds.length rds cols)
    (hA : Ok A 34) (hfr : A.frames = some []) (T : Stat w s0.heap) (hl : Has s0.heap la (LstN ns)) (hz : ns.length ≤ 63) (h : ∀ s', Grow s0 s' → Q (.bool true) s') :
    codeAny (model Pr w) A (.call (.ref 424) ⟨[.ref la], []⟩) (Rv Q) s0 := by
  refine r_enterCell (g := s0.heap) (S := S00) (m := []) (cm := lo [("script", .ref la)]) (binds := [("script", .ref la)]) (by exact rfl) hA.room (Sub.refl _) T (by kernel_rfl) (by rfl) (fun L x hx => ?_) ⟨fun l a φ e => by rw [s00] at e; (cases e), fun l l' a φ φ' e e' => by rw [s00] at e; (cases e)⟩ (fun L x v e => by cases e) (fun L x v e => ?_) fun Lc s₂ S => ?_
  · rw [List.mem_singleton] at hx
    subst hx
    exact .inr ⟨rfl, rfl⟩
  · have e' := mem_of_lookup e
    rw [List.mem_singleton] at e'
    cases e'; rfl
  -- draw = [script[k] if k < len(script) else _law_rest[k] for k in range(7)]
  refine r_assignCompG (ι := Lab) (fun i vs => IntsAre vs ((List.range i).map (drN ns)) ∧ i ≤ 7) (fun i vs hr => by have := ints_length hr.1; simp at this; omega) (20, 0)
    (r_callName (r_built (S.stat T) nb_range bt_range (r_cw (args_cons (r_int fun t s' g' => args_nil ⟨keeps_type _ _, b_range (n := 7) fun r s'' g'' hrr hrf => ?_⟩)))))
  have S := (S.grow g').grow g''
  refine ⟨7, _, _, itb_range (by omega) hA.hd hrr, S.stat T, ⟨⟨.nil, Nat.zero_le _⟩, fun h k => trivial, fun i vs v C D' P' s3 hi hr hval X3 => ?_⟩, _, _, _, _, _, rfl, S, fun Dd vd s'' hr S => ?_⟩
  · obtain ⟨ti, rfl⟩ := hval
    have T3 := X3.stat (S.stat T)
    refine a_name (r_store X3 fun s4 X4 => te_nil ?_)
    rw [if_pos rfl]
    have T4 := X4.stat (S.stat T)
    have hl4 := (S.baseH hl).mono X4.chg.sub
    refine r_ifx (t_cmp (r_local X4 rfl (r_callName (r_built T4 nb_len bt_len (r_cw (args_cons (r_capt S X4.chg.sub rfl (args_nil ⟨keeps_builtin _ _, b_lenN T4 bmL__len__ hl4 (by omega) fun t s5 g5 => P.lt_int (tr_bool ?_)⟩))))))))
    have X5 := X4.grow g5
    have hsnoc : ∀ t, IntsAre (vs ++ [.int (drN ns i) t]) ((List.range (i + 1)).map (drN ns)) := fun t => by
      rw [List.range_succ, List.map_append]
      exact ints_snoc hr.1
    by_cases hlt : i < ns.length
    · rw [if_pos (by simpa using hlt)]
      obtain ⟨x, hx⟩ : ∃ x, ns[i]? = some x := ⟨_, List.getElem?_eq_getElem hlt⟩
      have hd : drN ns i = x := by unfold drN; rw [if_pos hlt, List.getD_eq_getElem?_getD, hx]; rfl
      refine r_sub (r_capt S X5.chg.sub rfl (r_local X5 rfl ⟨inPyListN (X5.stat (S.stat T)) (hl4.mono g5.sub), listN_get (hl4.mono g5.sub) hx (by omega) fun t => ?_⟩))
      refine ⟨⟨?_, by omega⟩, _, _, X5⟩
      rw [← hd]; exact hsnoc t
    · rw [if_neg (by simpa using hlt)]
      obtain ⟨rv, irv, hrv⟩ := restTup (X5.stat (S.stat T))
      have hil : i < restN.length := hi
      obtain ⟨x, hx⟩ : ∃ x, restN[i]? = some x := ⟨_, List.getElem?_eq_getElem hil⟩
      obtain ⟨tx, htx⟩ := ints_get' irv hx
      have lrv := ints_length irv
      have hd : drN ns i = x := by unfold drN; rw [if_neg hlt, List.getD_eq_getElem?_getD, hx]; rfl
      refine r_sub (r_glob (X5.stat (S.stat T)) ng_rest (r_local X5 rfl ⟨inPyTup hrv, t_get (k := i) hrv (by omega) (by have : restN.length = 7 := rfl; omega) (by unfold seqIndex?; rw [lrv]; simp; omega) htx ?_⟩))
      refine ⟨⟨?_, by omega⟩, _, _, X5⟩
      rw [← hd]; exact hsnoc tx
  obtain ⟨g1, k1, S, gdr⟩ := S.freezeOne
  have T1 := T.mono k1.get
  have ivd := hr.1
  have lvd := ints_length ivd
  rw [List.length_map, List.length_range] at lvd
  obtain ⟨M, hM, hM4⟩ := fmod_nat (drN ns 0) (b := 4) (by decide)
  -- numbers = draw[1:4 + draw[0] % 4]
  refine r_assign (r_slice (r_local S rfl ?_))
  refine r_int (i := 1) (k := 0) (p := ⟨369, 19, 369, 20⟩) fun t1 s' g' => ?_
  have S := S.grow g'
  refine r_bin (r_int fun t4 s' g' => r_bin (r_sub (r_local (S.grow g') rfl (r_int fun t0 s2 g2 => ?_))))
  have S := (S.grow g').grow g2
  obtain ⟨td, htd⟩ := ints_get' ivd (i := 0) (k := drN ns 0) (by simp)
  refine ⟨inPyList (S.stat T1) (S.baseH gdr), l_get (i := 0) (S.baseH gdr) htd (by omega) ?_⟩
  refine r_int fun t5 s' g' => i_mod (by decide) fun t6 s2 g2 => i_add fun t7 s3 g3 => ?_
  have S := ((S.grow g').grow g2).grow g3
  rw [hM]
  refine ⟨Dd, _, _, vd, some ((1 : Nat) : Int), some ((4 + M : Nat) : Int), rfl, S.stat T1, S.baseH gdr, sk_type (by decide), bmL__getitem__, .int _ _, (by have := IsPart.int ((4 + M : Nat) : Int) t7; simpa using this), by omega, fun l s' g' hl1 hlf => ?_⟩
  rw [slicePick_run _ _ _ (by rw [List.size_toArray]; omega) (by omega)] at hl1
  have S := (S.new g' (l := (20, 0)) hl1 hlf)
  refine r_store S fun s' S => ?_
  obtain ⟨g2, k2, S, gnum⟩ := S.freezeOne
  have T2 := T1.mono k2.get
  obtain ⟨N, hN, ivN⟩ : ∃ N : List Int, N = (((List.range 7).map (drN ns)).drop 1).take (4 + M - 1) ∧ IntsAre (List.take (4 + M - 1) (List.drop 1 vd.toArray.toList)).toArray.toList N := by
    refine ⟨_, rfl, ?_⟩
    have e1 : (List.range 7).map (drN ns) = ((List.range 7).map (drN ns)).take 1 ++ ((((List.range 7).map (drN ns)).drop 1).take (4 + M - 1) ++ (((List.range 7).map (drN ns)).drop 1).drop (4 + M - 1)) := by
      rw [List.take_append_drop, List.take_append_drop]
    rw [e1] at ivd
    obtain ⟨us, ws, rfl, iu, iw⟩ := ints_split _ _ ivd
    obtain ⟨us2, ws2, rfl, iu2, iw2⟩ := ints_split _ _ iw
    have l1 := ints_length iu
    have l2 := ints_length iu2
    have l1' : us.length = 1 := by rw [l1]; rfl
    have l2' : us2.length = 4 + M - 1 := by
      rw [l2, List.length_take, List.length_drop, List.length_map, List.length_range]; omega
    show IntsAre (List.take (4 + M - 1) (List.drop 1 (us ++ (us2 ++ ws2)))) _
    rw [List.drop_left' l1', List.take_left' l2']
    exact iu2
  have hNl : N.length = 3 + M := by rw [hN, List.length_take, List.length_drop, List.length_map, List.length_range]; omega
  generalize (List.take (4 + M - 1) (List.drop 1 vd.toArray.toList)).toArray.toList = nv at gnum ivN
  have lnv := ints_length ivN
  clear hN
  obtain ⟨rds, hrds⟩ : ∃ rds : List Nat, rds = N.map fun x => (x.fmod 6).toNat := ⟨_, rfl⟩
  obtain ⟨cols, hcols⟩ : ∃ cols : List Nat, cols = N.map fun x => ((x.fdiv 6).fmod 3).toNat := ⟨_, rfl⟩
  have rl : rds.length = 3 + M := by rw [hrds, List.length_map, hNl]
  have cl : cols.length = 3 + M := by rw [hcols, List.length_map, hNl]
  have r6 : ∀ q ∈ rds, q < 6 := fun q hq => by
    rw [hrds] at hq
    obtain ⟨x, _, rfl⟩ := List.mem_map.mp hq
    obtain ⟨m, e1, e2⟩ := fmod_nat x (b := 6) (by decide)
    omega
  have c3 : ∀ c ∈ cols, c < 3 := fun c hc => by
    rw [hcols] at hc
    obtain ⟨x, _, rfl⟩ := List.mem_map.mp hc
    obtain ⟨m, e1, e2⟩ := fmod_nat (x.fdiv 6) (b := 3) (by decide)
    omega
  -- roads = [_law_pairs[number % 6] for number in numbers]
  refine r_assign (r_compG (fun i vs => vs = (roadsV rds).take i) (fun i vs hr => by rw [hr, List.length_take, List.length_map]; omega) (r_local S rfl ⟨_, _, _, itb_list hA.hd (S.baseH gnum), S.stat T2, ⟨by simp, fun h k => (S.baseH gnum).mono k, fun i vs v C D' P' s3 hi hr hval X3 => ?_⟩, fun Dr vr s' hr G hDr hDf => ?_⟩))
  · obtain ⟨x, tx, hx, rfl⟩ := ints_get ivN hval
    refine a_name (r_store X3 fun s4 X4 => te_nil ?_)
    rw [if_pos rfl]
    obtain ⟨m, e1, e2⟩ := fmod_nat x (b := 6) (by decide)
    refine r_sub (r_glob (X4.stat (S.stat T2)) ng_pairs (r_bin (r_local X4 rfl (r_int fun t s5 g5 => i_mod (by decide) fun t' s6 g6 => ?_))))
    have X5 := (X4.grow g5).grow g6
    have hp := pairsTup (X5.stat (S.stat T2))
    rw [e1]
    refine ⟨inPyTup hp, t_get (k := m) hp (by omega) (by omega) (by unfold seqIndex?; simp; omega) (x := .ref (403 + m)) (by rw [List.getElem?_map, List.getElem?_range (by omega)]; rfl) ?_⟩
    refine ⟨?_, _, _, X5⟩
    have hroad : (roadsV rds)[i]? = some (.ref (403 + m)) := by
      rw [List.getElem?_map, hrds, List.getElem?_map, hx]
      show some (Value.ref (403 + (x.fmod 6).toNat)) = _
      rw [e1]; rfl
    rw [take_snoc hroad, hr]
  rw [List.take_of_length_le (by rw [List.length_map]; omega)] at hr
  subst hr
  have S := S.new G (l := (20, 0)) hDr hDf
  refine r_storeCell S fun s' S => ?_
  obtain ⟨g3, k3, S, groads⟩ := S.freezeOne
  have T3 := T2.mono k3.get
  -- colours = [number // 6 % 3 for number in numbers]
  refine r_assign (r_compG (fun i vs => IntsAre vs (natsV (cols.take i))) (fun i vs hr => by have := ints_length hr; simp at this; omega) (r_local S rfl ⟨_, _, _, itb_list hA.hd (S.baseH (gnum.mono k3)), S.stat T3, ⟨by simpa using IntsAre.nil, fun h k => (S.baseH (gnum.mono k3)).mono k, fun i vs v C D' P' s3 hi hr hval X3 => ?_⟩, fun Dc vc s' hr G hDc hDf => ?_⟩))
  · obtain ⟨x, tx, hx, rfl⟩ := ints_get ivN hval
    refine a_name (r_store X3 fun s4 X4 => te_nil ?_)
    rw [if_pos rfl]
    obtain ⟨m, e1, e2⟩ := fmod_nat (x.fdiv 6) (b := 3) (by decide)
    refine r_bin (r_bin (r_local X4 rfl (r_int fun t s5 g5 => i_fdiv (by decide) (by decide) fun t' s6 g6 => r_int fun t2 s7 g7 => i_mod (by decide) fun t8 s8 g8 => ?_)))
    have X5 := (((X4.grow g5).grow g6).grow g7).grow g8
    refine ⟨?_, _, _, X5⟩
    have hcol : cols[i]? = some m := by
      rw [hcols, List.getElem?_map, hx]
      show some (((x.fdiv 6).fmod 3).toNat) = _
      rw [e1]; rfl
    rw [take_snoc hcol]
    unfold natsV
    rw [List.map_append, e1]
    exact ints_snoc hr
  rw [List.take_of_length_le (by omega)] at hr
  have S := S.new G (l := (20, 0)) (hDc.ofInts hr) hDf
  refine r_storeCell S fun s' S => ?_
  obtain ⟨g4, k4, S, gcols⟩ := S.freezeOne
  have T4 := T3.mono k4.get
  have groads4 := groads.mono k4
  have hpu := hpure rds cols (by omega) (by omega) (by omega) r6 c3
  have k04 : Sub s0.heap g4 := k1.trans (k2.trans (k3.trans k4))
  have S := S.fit2 (m' := []) (cm' := lo [("roads", .ref Dr), ("colours", .ref Dc)])
  obtain ⟨n, hn⟩ : ∃ n, n = rds.length := ⟨_, rfl⟩
  rw [← hn] at hpu
  have hn3 : 3 ≤ n := by omega
  have hn6 : n ≤ 6 := by omega
  have hcn : cols.length = n := by omega
  have rvl : (roadsV rds).length = n := by rw [List.length_map]; exact hn.symm
  -- rings, least = ([], len(roads))
  refine r_assignSw hA.hd (r_tuple (args_cons (r_list (args_nil ⟨by simp, fun ra s' g' hra hraf => ?_⟩))))
  have S := S.newA (E' := bagE ra [] []) g' (12, 0) hra hraf (fun l' q e => by
    unfold bagE at e
    by_cases z : l' = (12, 0)
    · rw [if_pos z] at e; cases e; exact .inl ⟨z, rfl⟩
    · rw [if_neg z] at e
      by_cases z1 : l'.1 = 13
      · rw [if_pos z1] at e; cases e
      · rw [if_neg z1] at e; cases e)
  refine args_cons (r_callName (r_built (S.stat T4) nb_len bt_len (r_cw (args_cons (r_cell S rfl (args_nil ⟨keeps_builtin _ _, b_len (S.stat T4) bmL__len__ (S.baseH groads4) (by omega) fun t s' g' => ?_⟩))))))
  have S := S.grow g'
  refine args_nil ⟨by simp, fun tt s' g' htt httf => ⟨tt, _, rfl, htt, rfl, fun s2 g2 => ?_⟩⟩
  have S := (S.grow g').grow g2
  refine ao_cons (bn (r_store S fun s' S => ao_cons (bn (r_store S fun s' S => ao_nil ?_))))
  rw [rvl] at S
  -- for part in range(2 ** len(roads))
  refine r_for (r_callName (r_built (S.stat T4) nb_range bt_range (r_cw (args_cons (r_bin (r_int fun t2 s' g' => r_callName (r_built ((S.grow g').stat T4) nb_len bt_len (r_cw (args_cons (r_cell (S.grow g') rfl (args_nil ⟨keeps_builtin _ _, b_len ((S.grow g').stat T4) bmL__len__ ((S.grow g').baseH groads4) (by omega) fun t3 s2 g2 => ?_⟩)))))))))))
  have S := (S.grow g').grow g2
  rw [rvl]
  refine i_pow2 (by omega) fun t4 s' g' => args_nil ⟨keeps_type _ _, b_range fun r s2 g2 hrr hrf => ?_⟩
  have S := (S.grow g').grow g2
  have h64 : 2 ^ n ≤ 64 := Nat.le_trans (Nat.pow_le_pow_right (by decide) hn6) (by decide)
  refine .mk (fun i m cm S => ∃ bag rgs t, m = lo [("rings", .ref ra), ("least", .int (leastP n rds cols i : Nat) t)] ∧ cm = lo [("roads", .ref Dr), ("colours", .ref Dc)] ∧ S = cS D00 0 Z0 (addE (bagE ra (rgs.map (·.1)) bag) (outS [])) ∧
      rgs.map (·.2) = ringsP n rds i ∧ ∀ r : Addr × List Nat, r ∈ rgs → (r.1, LstN (natsV r.2)) ∈ bag)
    (itb_range (by omega) hA.hd hrr) ⟨_, _, _, ⟨[], [], t, rfl, rfl, rfl, rfl, fun r hr => by cases hr⟩, S.fit2⟩ (fun i P' m cm S s hi Y => trivial) (fun i I ψ m cm S s v hi hv hval S => ?_) fun m cm S s hv S => ?_
  · obtain ⟨bag, rgs, tl, rfl, rfl, rfl, hrg, hrb⟩ := hv
    obtain ⟨ti, rfl⟩ := hval
    have rgl : rgs.length ≤ 64 := by
      have h1 := congrArg List.length hrg
      rw [List.length_map] at h1
      have h2 := List.length_filter_le (fun p => ringQ (qsOf rds (chosenOf n p))) (List.range i)
      rw [List.length_range] at h2
      unfold ringsP at h1
      rw [List.length_map] at h1
      omega
    refine a_name (r_storeCell S fun s S => ?_)
    -- chosen
    refine r_assign (r_compG (fun j vs => IntsAre vs (natsV (chosenOf j i)) ∧ j ≤ 6) (fun j vs hr => by
        have h1 := ints_length hr.1
        rw [List.length_map] at h1
        have := chosen_len j i
        omega)
      (r_callName (r_built (S.stat T4) nb_range bt_range (r_cw (args_cons (r_callName (r_built (S.stat T4) nb_len bt_len (r_cw (args_cons (r_cell S rfl (args_nil ⟨keeps_builtin _ _, b_len (S.stat T4) bmL__len__ (S.baseH groads4) (by omega) fun t s' g' => ?_⟩)))))))))))
    have S := S.grow g'
    rw [rvl]
    refine args_nil ⟨keeps_type _ _, b_range fun r s' g' hrr hrf => ?_⟩
    have S := S.grow g'
    refine ⟨n, _, _, itb_range (by omega) hA.hd hrr, S.stat T4, ⟨⟨.nil, Nat.zero_le _⟩, fun h k => trivial, fun j vs v C D' P' s3 hj hr hval3 X3 => ?_⟩, fun Dch vch s' hr G hDch hDchf => ?_⟩
    · obtain ⟨tj, rfl⟩ := hval3
      have hnext : chosenOf (j + 1) i = chosenOf j i ++ if i.testBit j = true then [j] else [] := by
        unfold chosenOf
        rw [List.range_succ, List.filter_append]
        congr 1
        cases hb : i.testBit j <;> simp [hb]
      refine a_name (r_store X3 fun s4 X4 => te_one (wpAny_isTrue_value (r_bin (r_bin (r_capt S X4.chg.sub rfl (r_local X4 rfl (i_rsh fun t5 s5 g5 => r_int fun t6 s6 g6 => i_and fun t7 s7 g7 => P.truthy_int ?_))))) (by rfl)))
      have X5 := ((X4.grow g5).grow g6).grow g7
      rw [bit_and]
      by_cases hb : i.testBit j = true
      · rw [if_pos hb]
        refine r_local X5 rfl ⟨⟨?_, by omega⟩, _, _, X5⟩
        rw [hnext, if_pos hb]
        unfold natsV
        rw [List.map_append]
        exact ints_snoc hr.1
      · rw [if_neg hb]
        refine ⟨⟨?_, by omega⟩, _, _, X5⟩
        rw [hnext, if_neg hb, List.append_nil]
        exact hr.1
    have S := S.bagNew G (hDch.ofInts hr.1) hDchf
    refine r_storeCell S fun s' S => ?_
    obtain ⟨ch, hch⟩ : ∃ ch, ch = chosenOf n i := ⟨_, rfl⟩
    rw [← hch] at S
    have chl : ch.length ≤ n := by rw [hch]; exact chosen_len n i
    have chn : ∀ k ∈ ch, k < n := fun k hk => by rw [hch] at hk; exact chosen_lt hk
    have mch : (Dch, LstN (natsV ch)) ∈ bag ++ [(Dch, LstN (natsV ch))] := List.mem_append_right _ (List.mem_singleton.mpr rfl)
    obtain ⟨vc2, ivc2, hvc2⟩ := (S.bagAt mch).ints
    have lvc2 := ints_length ivc2
    rw [List.length_map] at lvc2
    have endsSnoc : ∀ qs q, endsQ (qs ++ [q]) = endsQ qs ++ [(pairN q).1, (pairN q).2] := fun qs q => by simp [endsQ]
    -- ends
    refine r_assign (r_comp2 (fun j vs => IntsAre vs (natsV (endsQ (qsOf rds (ch.take j)))) ∧ vs.length ≤ 2 * j ∧ j ≤ 6) (fun j l vs => IntsAre vs (natsV (endsQ (qsOf rds (ch.take j)) ++ [(pairN (rds.getD (ch.getD j 0) 0)).1, (pairN (rds.getD (ch.getD j 0) 0)).2].take l)) ∧ vs.length ≤ 2 * j + l ∧ j ≤ 6 ∧ l ≤ 2) (fun j l vs hr => by omega)
      (r_cell S rfl ⟨_, _, _, itb_list hA.hd hvc2, S.stat T4, ⟨.nil, Nat.zero_le _, Nat.zero_le _⟩, fun h k => hvc2.mono k, fun j vs v C D' P' s3 hj hr hval3 X3 => ?_, fun De ve s' hr G hDe hDef => ?_⟩))
    · obtain ⟨k, tk, hk, rfl⟩ := vars_get ivc2 hval3
      have hkn := chn k (List.mem_of_getElem? hk)
      obtain ⟨q, hq⟩ : ∃ q, rds[k]? = some q := ⟨_, List.getElem?_eq_getElem (by omega)⟩
      have hq6 := r6 q (List.mem_of_getElem? hq)
      have hD : rds.getD k 0 = q := by rw [List.getD_eq_getElem?_getD, hq]; rfl
      have hD2 : ch.getD j 0 = k := by rw [List.getD_eq_getElem?_getD, hk]; rfl
      have hroad : (roadsV rds)[k]? = some (.ref (403 + q)) := by rw [List.getElem?_map, hq]; rfl
      obtain ⟨ta, tb, hpt⟩ := pairTup (S.stat T4) hq6
      refine a_name (r_store X3 fun s4 X4 => r_sub (r_capt S X4.chg.sub rfl (r_local X4 rfl ⟨inPyList (X4.stat (S.stat T4)) ((S.baseH groads4).mono X4.chg.sub), l_get ((S.baseH groads4).mono X4.chg.sub) hroad (by omega) ?_⟩)))
      refine ⟨_, _, _, _, _, itb_tuple hA.hd (hpt.mono X4.chg.sub), fun h k => hpt.mono k, X4, ⟨by rw [List.take_zero, List.append_nil]; exact hr.1, by omega, by omega, by omega⟩, fun vs h2 => ?_, fun l vs v P2 s5 hl hr2 hval4 X5 => ?_⟩
      · have h22 : vs.length ≤ 2 * j + 2 := h2.2.1
        refine ⟨?_, by omega, by omega⟩
        have h3 : IntsAre vs (natsV (endsQ (qsOf rds (ch.take j)) ++ [(pairN q).1, (pairN q).2])) := by
          have := h2.1
          rw [hD2, hD] at this
          exact this
        unfold qsOf at h3
        rw [take_snoc hk]
        unfold qsOf
        rw [List.map_append, List.map_cons, List.map_nil, endsSnoc, hD]
        exact h3
      · have hl2 : l < 2 := hl
        rw [hD2, hD] at hr2
        refine a_name (r_store X5 fun s6 X6 => r_local X6 rfl ⟨⟨?_, by rw [List.length_append, List.length_singleton]; omega, by omega, by omega⟩, _, _, X6⟩)
        rw [hD2, hD]
        rcases (show l = 0 ∨ l = 1 by omega) with rfl | rfl
        · have : v = .int ((pairN q).1 : Int) ta := by simpa using hval4.symm
          subst this
          have := hr2.1
          rw [List.take_zero, List.append_nil] at this
          show IntsAre _ (natsV (_ ++ [(pairN q).1]))
          unfold natsV
          rw [List.map_append]
          exact ints_snoc this
        · have : v = .int ((pairN q).2 : Int) tb := by simpa using hval4.symm
          subst this
          have := hr2.1
          show IntsAre _ (natsV (_ ++ [(pairN q).1, (pairN q).2]))
          rw [show endsQ (qsOf rds (ch.take j)) ++ [(pairN q).1, (pairN q).2] = (endsQ (qsOf rds (ch.take j)) ++ [(pairN q).1]) ++ [(pairN q).2] from by simp]
          unfold natsV
          rw [List.map_append (l₁ := _ ++ _)]
          exact ints_snoc this
    rw [List.take_of_length_le (by omega)] at hr
    obtain ⟨en, hen⟩ : ∃ en, en = endsQ (qsOf rds ch) := ⟨_, rfl⟩
    rw [← hen] at hr
    have enl : en.length ≤ 12 := by
      have h1 := ints_length hr.1
      rw [List.length_map] at h1
      omega
    have S := S.bagNew G (hDe.ofInts hr.1) hDef
    refine r_storeCell S fun s' S => ?_
    obtain ⟨bag2, hbag2⟩ : ∃ b, b = bag ++ [(Dch, LstN (natsV ch))] ++ [(De, LstN (natsV en))] := ⟨_, rfl⟩
    rw [← hbag2] at S
    have mch2 : (Dch, LstN (natsV ch)) ∈ bag2 := by rw [hbag2]; simp
    have men : (De, LstN (natsV en)) ∈ bag2 := by rw [hbag2]; simp
    have hrb2 : ∀ r : Addr × List Nat, r ∈ rgs → (r.1, LstN (natsV r.2)) ∈ bag2 := fun r hr => by rw [hbag2]; simp [hrb r hr]
    refine r_ifJ (fun s => ∃ rgs' : List (Addr × List Nat), St S.cx ([] ++ [(I, ψ)]) (lo [("rings", .ref ra), ("least", .int (leastP n rds cols i : Nat) tl)]) (lo [("roads", .ref Dr), ("colours", .ref Dc), ("chosen", .ref Dch)]) (cS D00 0 Z0 (addE (bagE ra (rgs'.map (·.1)) bag2) (outS []))) s ∧
        rgs'.map (·.2) = ringsP n rds (i + 1) ∧ ∀ r : Addr × List Nat, r ∈ rgs' → (r.1, LstN (natsV r.2)) ∈ bag2)
      (isTrue_and (t_name (r_cell S rfl (truthN (S.stat T4) bmL__len__ nobool_list (S.bagAt mch2) (by rw [List.length_map]; omega) fun s' g' => ?_)))) ?_
    · have S := S.grow g'
      by_cases hce : ch = []
      · rw [if_neg (by simp [hce])]
        rw [if_neg (by decide)]
        refine r_nil ⟨rgs, S.fit2, ?_, hrb2⟩
        rw [ringsP_succ, ← hch, hce, if_neg (by show ¬ ringQ [] = true; decide), List.append_nil, hrg]
      · rw [if_pos (by simpa using hce)]
        obtain ⟨ve, ive, hve⟩ := (S.bagAt men).ints
        have lve := ints_length ive
        rw [List.length_map] at lve
        refine isTrue_and (t_cmp (r_compG (fun j vs => IntsAre vs (natsV ((en.take j).filter fun p => en.count p != 2)) ∧ vs.length ≤ j ∧ j ≤ 12) (fun j vs hr => by omega)
          (r_cell S rfl ⟨_, _, _, itb_list hA.hd hve, S.stat T4, ⟨⟨.nil, Nat.zero_le _, Nat.zero_le _⟩, fun h k => hve.mono k, fun j vs v C D' P' s3 hj hr hval3 X3 => ?_⟩, fun Dx vx s' hr G hDx hDxf => ?_⟩)))
        · obtain ⟨p, tp, hp, rfl⟩ := vars_get ive hval3
          have hjl := (List.getElem?_eq_some_iff.mp hp).1
          have hen4 := (S.bagAt men)
          refine a_name (r_store X3 fun s4 X4 => te_one (t_cmp (r_callMeth (r_capt S X4.chg.sub rfl (m_listN bmL_count (X4.stat (S.stat T4)) (hen4.mono X4.chg.sub) ?_)))))
          refine r_cw (args_cons (r_local X4 rfl (args_nil ⟨keeps_builtin _ _, b_count (hen4.mono X4.chg.sub) fun t s5 g5 => r_int fun t6 s6 g6 => P.ne_int (tr_bool ?_)⟩)))
          have X5 := (X4.grow g5).grow g6
          rw [count_cast, take_snoc hp, List.filter_append]
          by_cases hc : en.count p = 2
          · rw [if_neg (by simp [hc])]
            refine ⟨⟨?_, by omega, by omega⟩, _, _, X5⟩
            rw [List.filter_cons, if_neg (by simp [hc]), List.filter_nil, List.append_nil]
            exact hr.1
          · rw [if_pos (by simp; omega)]
            refine r_local X5 rfl ⟨⟨?_, by rw [List.length_append, List.length_singleton]; omega, by omega⟩, _, _, X5⟩
            rw [List.filter_cons, if_pos (by simpa using hc), List.filter_nil]
            unfold natsV
            rw [List.map_append]
            exact ints_snoc hr.1
        have S := S.grow G
        refine r_list (args_nil ⟨by simp, fun e0 s2 g2 he0 he0f => l_eq (hA.deeper (k := 33) |>.le (by decide)) ((hDx.ofInts hr.1).mono g2.sub) (he0.ofInts .nil) (tr_bool ?_)⟩)
        have S := S.grow g2
        rw [List.take_of_length_le (by omega)]
        have hri := ring_iff (rds := rds) hce
        rw [← hen] at hri
        by_cases hring : ringQ (qsOf rds ch) = true
        · rw [if_pos (by rw [← hri]; exact hring)]
          refine isTrue_and_nil ?_
          rw [if_pos rfl]
          refine r_expr (r_callMeth (r_local S rfl (m_list bmL_append (S.stat T4) (S.atA (l := (12, 0)) rfl) ?_)))
          refine r_cw (args_cons (r_cell S rfl (args_nil ⟨keeps_builtin _ _, b_append (S.stat T4) (S.atA (l := (12, 0)) rfl) (by rw [List.length_map, List.length_map]; omega) fun h' h1 h2 => ?_⟩)))
          have S := S.putA (E' := bagE ra ((rgs ++ [(Dch, ch)]).map (·.1)) bag2) (12, 0) (t := s2.toks) rfl h1 h2 (fun l' q e => by
            unfold bagE at e ⊢
            by_cases z : l' = (12, 0)
            · rw [if_pos z] at e; cases e
              refine .inl ⟨z, ?_⟩
              rw [List.map_append, List.map_append]; rfl
            · rw [if_neg z] at e ⊢
              exact .inr ⟨z, e⟩)
          refine r_nil ⟨rgs ++ [(Dch, ch)], S.fit2, ?_, fun r hr => ?_⟩
          · rw [ringsP_succ, ← hch, if_pos hring, List.map_append, hrg]; rfl
          · rcases List.mem_append.mp hr with hr | hr
            · exact hrb2 r hr
            · rw [List.mem_singleton.mp hr]; exact mch2
        · rw [if_neg (by rw [← hri]; exact hring)]
          rw [if_neg (by decide)]
          refine r_nil ⟨rgs, S.fit2, ?_, hrb2⟩
          rw [ringsP_succ, ← hch, if_neg hring, List.append_nil, hrg]
    rintro s ⟨rgs', S, hrg', hrb'⟩
    have S := S.fit2 (m' := lo [("rings", .ref ra), ("least", .int (leastP n rds cols i : Nat) tl)]) (cm' := lo [("roads", .ref Dr), ("colours", .ref Dc), ("chosen", .ref Dch)])
    -- others
    refine r_assignSetG (ι := Lab) (fun j => natsV (colsOf cols (othersOf j ch))) (13, bag2.length)
      (r_callName (r_built (S.stat T4) nb_range bt_range (r_cw (args_cons (r_callName (r_built (S.stat T4) nb_len bt_len (r_cw (args_cons (r_cell S rfl (args_nil ⟨keeps_builtin _ _, b_len (S.stat T4) bmL__len__ (S.baseH groads4) (by omega) fun t s' g' => ?_⟩))))))))))
    have S := S.grow g'
    rw [rvl]
    refine args_nil ⟨keeps_type _ _, b_range fun r s' g' hrr hrf => ?_⟩
    have S := S.grow g'
    have oLen : ∀ j, (othersOf j ch).length ≤ j := fun j => by
      have := List.length_filter_le (fun k => !ch.contains k) (List.range j)
      rw [List.length_range] at this; exact this
    refine ⟨n, _, _, itb_range (by omega) hA.hd hrr, fun j hj => by unfold colsOf; rw [List.length_map, List.length_map]; have := oLen j; omega, ⟨rfl, fun h k => trivial, fun j v C D' P' s3 hj hval3 X3 => ?_⟩, _, _, _, _, _, rfl, S, fun Do s'' S => ?_⟩
    · obtain ⟨tj, rfl⟩ := hval3
      obtain ⟨cj, hcj⟩ : ∃ cj, cols[j]? = some cj := ⟨_, List.getElem?_eq_getElem (by omega)⟩
      have hD : cols.getD j 0 = cj := by rw [List.getD_eq_getElem?_getD, hcj]; rfl
      have hnext : othersOf (j + 1) ch = othersOf j ch ++ if ch.contains j = true then [] else [j] := by
        unfold othersOf
        rw [List.range_succ, List.filter_append]
        congr 1
        cases hb : ch.contains j <;> (rw [List.filter_cons, hb]; rfl)
      have hmc := (S.bagAt mch2)
      refine a_name (r_store X3 fun s4 X4 => te_one (t_cmp (r_local X4 rfl (r_capt S X4.chg.sub rfl (l_notin (hmc.mono X4.chg.sub) (tr_bool ?_))))))
      have hany : ((natsV ch).any fun x => x == (j : Int)) = ch.contains j := by
        rw [Bool.eq_iff_iff, List.any_eq_true, List.contains_iff_mem]
        constructor
        · rintro ⟨x, hx, e⟩
          obtain ⟨y, hy, rfl⟩ := List.mem_map.mp hx
          have : y = j := by have := eq_of_beq e; omega
          rw [← this]; exact hy
        · intro hx
          exact ⟨(j : Int), List.mem_map.mpr ⟨j, hx, rfl⟩, by simp⟩
      rw [hany]
      cases hb : ch.contains j with
      | true =>
        rw [if_neg (by decide)]
        refine ⟨?_, _, _, X4⟩
        rw [hnext, hb, if_pos rfl, List.append_nil]
      | false =>
        rw [if_pos (by decide)]
        refine r_sub (r_capt S X4.chg.sub rfl (r_local X4 rfl ⟨inPyListN (X4.stat (S.stat T4)) ((S.baseH gcols).mono X4.chg.sub), listN_get ((S.baseH gcols).mono X4.chg.sub) (by rw [List.getElem?_map, hcj]; rfl) (by rw [List.length_map]; omega) fun t5 => ?_⟩))
        refine ⟨⟨_, _, rfl, ?_⟩, _, _, X4⟩
        rw [hnext, hb, if_neg (by decide)]
        unfold colsOf natsV
        rw [List.map_append, List.map_append, List.map_cons, List.map_nil, hD]; rfl
    have S := bag_upd (φ' := SetN w (natsV (colsOf cols (othersOf n ch)))) S (fun o ho => ho)
    have mot : (Do, SetN w (natsV (colsOf cols (othersOf n ch)))) ∈ bag2 ++ [(Do, SetN w (natsV (colsOf cols (othersOf n ch))))] := List.mem_append_right _ (List.mem_singleton.mpr rfl)
    -- least = min(least, _law_rank(roads, chosen) + len(others))
    refine r_assign (r_callName (r_built (S.stat T4) nb_min bt_min (r_cw (args_cons (r_local S rfl (args_cons (r_bin (r_callName (r_glob (S.stat T4) ng_rank (r_cw (args_cons (r_cell S rfl (args_cons (r_cell S rfl (args_nil ⟨keeps_K (S.stat T4).K (by kernel_rfl), ?_⟩)))))))))))))))
    obtain ⟨g', h1, h2, h3, h4, h5⟩ := S.call2 (Sc := fun _ => none) (fun l p e => by cases e)
    obtain ⟨jc, hjc⟩ := List.getElem?_of_mem (List.mem_append_left [(Do, SetN w (natsV (colsOf cols (othersOf n ch))))] mch2)
    refine wpAny_call (rank_spec (hA.deeper (k := 33) |>.le (by decide)) h1 (T4.mono h2.get) (groads4.mono h2) (h4 (13, jc) _ _ (cs_e (addE_lo (bag_at hjc) (by show 13 < 30; decide)) (by show 3 ≤ 13; decide)) rfl) r6 (fun k hk => by have := chn k hk; omega) (by omega) (by omega) fun s' t c1 => ?_)
    have S := (h5 s' (fun _ => none) c1 (Led.nil _ _)).sto (fun l p e => over2_old rfl rfl e)
    refine r_callName (r_built (S.stat T4) nb_len bt_len (r_cw (args_cons (r_local S rfl (args_nil ⟨keeps_builtin _ _, b_lenSet (S.bagAt mot) (fun us t2 s2 hnd hmem hlen2 g2 => ?_) (fun us hnd hmem => ?_)⟩)))))
    · have S := S.grow g2
      have hcard : us.length = ncol (colsOf cols (othersOf n ch)) := ncol_card (fun c hc => by
        obtain ⟨k, hk, rfl⟩ := List.mem_map.mp hc
        have hk' := List.mem_range.mp (List.mem_filter.mp hk).1
        rw [List.getD_eq_getElem?_getD, List.getElem?_eq_getElem (by omega)]
        exact c3 _ (List.getElem_mem _)) hnd hmem
      refine i_add fun t3 s3 g3 => args_nil ⟨keeps_builtin _ _, b_min hA.hd fun t4 s4 g4 => ?_⟩
      have S := (S.grow g3).grow g4
      refine r_store S fun s' S => ?_
      refine r_nil ⟨_, _, _, ⟨bag2 ++ [(Do, SetN w (natsV (colsOf cols (othersOf n ch))))], rgs', t4, rfl, rfl, rfl, hrg', fun r hr => List.mem_append_left _ (hrb' r hr)⟩, ?_⟩
      have e : (min ((leastP n rds cols i : Nat) : Int) ((rank (List.map (fun k => rds.getD k 0) ch) : Nat) + (us.length : Nat))) = ((leastP n rds cols (i + 1) : Nat) : Int) := by
        rw [leastP_succ]
        unfold valP
        rw [← hch, hcard]
        unfold qsOf
        omega
      rw [e] at S
      exact S.fit2
    · have hcard : us.length = ncol (colsOf cols (othersOf n ch)) := ncol_card (fun c hc => by
        obtain ⟨k, hk, rfl⟩ := List.mem_map.mp hc
        have hk' := List.mem_range.mp (List.mem_filter.mp hk).1
        rw [List.getD_eq_getElem?_getD, List.getElem?_eq_getElem (by omega)]
        exact c3 _ (List.getElem_mem _)) hnd hmem
      rw [hcard]
      unfold ncol
      have := List.length_filter_le (fun c => (colsOf cols (othersOf n ch)).contains c) (List.range 3)
      rw [List.length_range] at this
      omega
  obtain ⟨bag, rgs, tl, rfl, rfl, rfl, hrg, hrb⟩ := hv
  refine r_nil (k_next ?_)
  obtain ⟨g5, k5, S, F5⟩ := S.freezeA noS2 (fun l p e => by cases e)
  have gring := F5 (12, 0) _ _ (by decide) (by decide) rfl rfl
  have grl : ∀ r : Addr × List Nat, r ∈ rgs → Has g5 r.1 (LstN (natsV r.2)) := fun r hr => by
    obtain ⟨j, hj⟩ := List.getElem?_of_mem (hrb r hr)
    exact F5 (13, j) _ _ (by show 3 ≤ 13; decide) (by show 13 < 30; decide) (bag_at hj) rfl
  have gring : Has g5 ra (LstI (rgs.map fun r => Value.ref r.1)) := by rw [List.map_map] at gring; exact gring
  have T5 := T4.mono k5.get
  have gcols5 := gcols.mono k5
  have groads5 := groads4.mono k5
  have k05 := k04.trans k5
  have S : St _ [] (lo [("rings", .ref ra), ("least", .int (leastP n rds cols (2 ^ n) : Nat) tl)]) (lo [("roads", .ref Dr), ("colours", .ref Dc)]) S00 s := S
  have hrings : ∀ r : Addr × List Nat, r ∈ rgs → (∀ x ∈ r.2, x < cols.length) ∧ r.2 ≠ [] ∧ r.2.Nodup ∧ r.2.length ≠ 1 ∧ r.2.length ≤ 100 := fun r hr => by
    have h1 : r.2 ∈ ringsP n rds (2 ^ n) := hrg ▸ List.mem_map_of_mem hr
    unfold ringsP at h1
    obtain ⟨p, hp, e⟩ := List.mem_map.mp h1
    have hring := (List.mem_filter.mp hp).2
    rw [e] at hring
    have hl := chosen_len n p
    rw [e] at hl
    refine ⟨fun x hx => ?_, fun h0 => ?_, ?_, fun h1 => ?_, by omega⟩
    · rw [← e] at hx
      rw [hcn]; exact chosen_lt hx
    · rw [h0] at hring; exact absurd hring (by show ¬ ringQ [] = true; decide)
    · rw [← e]; exact List.Pairwise.filter _ List.nodup_range
    · obtain ⟨k, hk⟩ := List.length_eq_one_iff.mp h1
      rw [hk] at hring
      have hq6 : rds.getD k 0 < 6 := by
        have : k < n := by
          have : k ∈ chosenOf n p := by rw [e, hk]; exact List.mem_singleton.mpr rfl
          exact chosen_lt this
        rw [List.getD_eq_getElem?_getD, List.getElem?_eq_getElem (by omega)]
        exact r6 _ (List.getElem_mem _)
      have : ringQ [rds.getD k 0] = false := by
        generalize rds.getD k 0 = q at hq6
        match q, hq6 with
        | 0, _ => decide
        | 1, _ => decide
        | 2, _ => decide
        | 3, _ => decide
        | 4, _ => decide
        | 5, _ => decide
        | q + 6, h => omega
      unfold qsOf at hring
      rw [List.map_cons, List.map_nil, this] at hring
      cases hring
  have rgl : rgs.length ≤ 64 := by
    have h1 := congrArg List.length hrg
    rw [List.length_map] at h1
    have h2 := List.length_filter_le (fun p => ringQ (qsOf rds (chosenOf n p))) (List.range (2 ^ n))
    rw [List.length_range] at h2
    unfold ringsP at h1
    rw [List.length_map] at h1
    omega
  -- best = _law_choice(colours, rings, least)
  refine r_assign (r_callName (r_glob (S.stat T5) ng_choice (r_cw (args_cons (r_cell S rfl (args_cons (r_local S rfl (args_cons (r_local S rfl (args_nil ⟨keeps_K (S.stat T5).K (by kernel_rfl), ?_⟩))))))))))
  obtain ⟨g6, h1, h2, h3, h4, _, h6⟩ := S.callL (Sc := S00) (fun l p e => e)
  have h3 := h3.sub (S' := outS [(Lc, lo [("rings", .ref ra), ("least", .int (leastP n rds cols (2 ^ n) : Nat) tl)])]) fun l p e => (push_out l).trans (out_cs l p e)
  refine wpAny_call (choice_spec (rgs := rgs) (cols := cols) (cnt := leastP n rds cols (2 ^ n)) (fr := [(Lc, lo [("rings", .ref ra), ("least", .int (leastP n rds cols (2 ^ n) : Nat) tl)])]) (hA.deeper (k := 33) |>.le (by decide)) (Around.frames_deeper hfr) (Fits.cons (outer := []) (fr := []) ⟨rfl, fun e he => by cases he⟩ rfl (by intro z; cases z)) h1 (T5.mono h2.get)
    (gcols5.mono h2) (gring.mono h2) (fun r hr => (grl r hr).mono h2) (by omega) (by omega) hrings rgl h3 (fun s' hno d3 L3 => ?_) fun s' b a σ hσ hperm hlk d3 L3 hbs => ?_)
  · obtain ⟨σ, hσ⟩ := hpu.ex
    rw [hcn, hrg] at hno
    exact absurd hσ (hno σ)
  rw [hcn, hrg] at hσ
  rw [hcn] at hperm hlk
  have S := (h6 s' (fun l => if l = (3, 0) then some (b, DicN w a) else none) _ d3 (L3.sub push_back)).sto (S' := updS S00 (3, 0) (b, DicN w a)) (fun l p e => by
    unfold updS at e
    by_cases z : l = (3, 0)
    · rw [if_pos z] at e
      refine over2_new ?_
      rw [if_pos z]; exact e
    · rw [if_neg z, s00] at e; cases e)
  refine r_storeCell S fun s' S => ?_
  obtain ⟨g7, k7, S, gbest⟩ := S.freezeOne
  have T7 := T5.mono k7.get
  obtain ⟨kvs, ikv, gkv⟩ := gbest.kv
  have kvl : kvs.length = n := by
    have h1 := kv_len ikv
    have h2 := hperm.length_eq
    rw [List.length_map, List.length_map, List.length_range] at h2
    omega
  have ekeys := kv_keys ikv
  have groads7 := groads5.mono k7
  obtain ⟨good1, good2, good3⟩ := hpu.good σ hσ
  -- if best is None or sorted(best) != list(range(len(roads))) or [..]: return False
  refine r_if (isTrue_or (t_cmp (r_cell S rfl (r_none (is_none_ne (by intro z; cases z) (tr_bool ?_))))))
  rw [if_neg (by decide)]
  refine isTrue_or (t_cmp (r_callName (r_built (S.stat T7) nb_sorted bt_sorted (r_cw (args_cons (r_cell S rfl (args_nil ⟨keeps_builtin _ _, b_sortedDict hA.hd (S.stat T7) hbs (S.baseH gkv) (by omega) fun ls s' ms g' hp1 hp2 hls hlsf => ?_⟩)))))))
  have S := S.grow g'
  have hms : ms = natsV (List.range n) := sorted_uniq (hp1.trans (ekeys ▸ hperm)) hp2 (range_sorted n)
  refine r_callName (r_built (S.stat T7) nb_list bt_list (r_cw (args_cons (r_callName (r_built (S.stat T7) nb_range bt_range (r_cw (args_cons (r_callName (r_built (S.stat T7) nb_len bt_len (r_cw (args_cons (r_cell S rfl (args_nil ⟨keeps_builtin _ _, b_len (S.stat T7) bmL__len__ (S.baseH groads7) (by omega) fun t s2 g2 => ?_⟩)))))))))))))
  rw [rvl]
  refine args_nil ⟨keeps_type _ _, b_range fun r s3 g3 hrr3 hrf3 => args_nil ⟨keeps_type _ _, b_listRange hA.hd hrr3 (by omega) fun l2 s4 g4 hl2 hl2f => ?_⟩⟩
  have S := ((S.grow g2).grow g3).grow g4
  refine l_ne (hA.deeper (k := 33) |>.le (by decide)) (((hls.mono g2.sub).mono g3.sub).mono g4.sub) hl2 (tr_bool ?_)
  rw [hms, if_neg (by simp)]
  refine isTrue_or (wpAny_isTrue_value (r_compG (fun j vs => vs = []) (fun j vs hr => by rw [hr]; exact Nat.zero_le _) (r_cell S rfl ?_)) (by rfl))
  obtain ⟨ep, gkvI⟩ := gkv.ep
  refine ⟨_, _, _, itb_keys hbs hA.hd (S.baseH gkvI), S.stat T7, ⟨rfl, fun h k => (S.baseH gkvI).mono k, fun j vs v C D' P' s3 hj hr hval3 X3 => ?_⟩, fun Dx vx s' hr G hDx hDxf => ?_⟩
  · obtain ⟨k, u, t, hk, rfl⟩ := hval3
    subst hr
    have hkm : k ∈ a.map (·.1) := by rw [← ekeys]; exact List.mem_map_of_mem (f := (·.1)) (List.mem_of_getElem? hk)
    obtain ⟨x, hx, rfl⟩ := List.mem_map.mp (hperm.subset hkm)
    have hxn := List.mem_range.mp hx
    refine a_name (r_store X3 fun s4 X4 => te_one (t_cmp (r_sub (r_capt S X4.chg.sub rfl (r_local X4 rfl ⟨inPyDicN ((S.baseH gbest).mono X4.chg.sub), n_get ((S.baseH gbest).mono X4.chg.sub) (hlk x hxn) fun t5 s5 g5 => ?_⟩)))))
    refine r_tuple (args_cons (r_int fun t6 s6 g6 => args_cons (r_int fun t7 s7 g7 => args_nil ⟨by simp, fun tt s8 g8 htt httf => ?_⟩)))
    have X5 := (((X4.grow g5).grow g6).grow g7).grow g8
    refine notin_tuple_ints (items := #[.int 0 t6, .int 1 t7]) (by obtain ⟨n0, e0⟩ := htt.out; exact ⟨_, e0, rfl, n0, rfl⟩) (.cons 0 t6 (.cons 1 t7 .nil)) ?_
    refine tr_bool ?_
    have h01 := hσ.1 x hxn
    rw [if_neg (by rcases h01 with e | e <;> rw [e] <;> decide)]
    exact ⟨rfl, _, _, X5⟩
  subst hr
  have S := S.grow G
  refine b_truth (S.stat T7) bmL__len__ nobool_list hDx (by simp) fun s' g' => ?_
  have S := S.grow g'
  rw [if_neg (by simp)]
  refine isTrue_or_nil ?_
  rw [if_neg (by decide)]
  refine r_nil (k_next ?_)
  have S := S.fit2 (m' := lo [("rings", .ref ra), ("least", .int (leastP n rds cols (2 ^ n) : Nat) tl)]) (cm' := lo [("roads", .ref Dr), ("colours", .ref Dc), ("best", .ref b)])
  -- taken
  refine r_assignCompG (ι := Lab) (fun j vs => IntsAre vs (natsV ((List.range j).filter fun k => σ k == 1)) ∧ j ≤ 6) (fun j vs hr => by
      have h1 := ints_length hr.1
      rw [List.length_map] at h1
      have h2 := List.length_filter_le (fun k : Nat => σ k == 1) (List.range j)
      rw [List.length_range] at h2
      omega) (20, 0)
    (r_callName (r_built (S.stat T7) nb_range bt_range (r_cw (args_cons (r_callName (r_built (S.stat T7) nb_len bt_len (r_cw (args_cons (r_cell S rfl (args_nil ⟨keeps_builtin _ _, b_len (S.stat T7) bmL__len__ (S.baseH groads7) (by omega) fun t s' g' => ?_⟩))))))))))
  have S := S.grow g'
  rw [rvl]
  refine args_nil ⟨keeps_type _ _, b_range fun r s' g' hrr hrf => ?_⟩
  have S := S.grow g'
  refine ⟨n, _, _, itb_range (by omega) hA.hd hrr, S.stat T7, ⟨⟨.nil, Nat.zero_le _⟩, fun h k => trivial, fun j vs v C D' P' s3 hj hr hval3 X3 => ?_⟩, _, _, _, _, _, rfl, S, fun Dt vt s'' hr S => ?_⟩
  · obtain ⟨tj, rfl⟩ := hval3
    have hnext : (List.range (j + 1)).filter (fun k : Nat => σ k == 1) = (List.range j).filter (fun k : Nat => σ k == 1) ++ if (σ j == 1) = true then [j] else [] := by
      rw [List.range_succ, List.filter_append]
      congr 1
      cases hb : (σ j == 1) <;> (rw [List.filter_cons, hb]; rfl)
    refine a_name (r_store X3 fun s4 X4 => te_one (t_cmp (r_sub (r_capt S X4.chg.sub rfl (r_local X4 rfl ⟨inPyDicN ((S.baseH gbest).mono X4.chg.sub), n_get ((S.baseH gbest).mono X4.chg.sub) (hlk j hj) fun t5 s5 g5 => ?_⟩)))))
    refine r_int fun t6 s6 g6 => P.eq_int (tr_bool ?_)
    have X5 := (X4.grow g5).grow g6
    by_cases hb : (σ j == 1) = true
    · rw [if_pos hb]
      refine r_local X5 rfl ⟨⟨?_, by omega⟩, _, _, X5⟩
      rw [hnext, if_pos hb]
      unfold natsV
      rw [List.map_append]
      exact ints_snoc hr.1
    · rw [if_neg hb]
      refine ⟨⟨?_, by omega⟩, _, _, X5⟩
      rw [hnext, if_neg hb, List.append_nil]
      exact hr.1
  obtain ⟨g8, k8, S, gtk⟩ := S.freezeOne
  have T8 := T7.mono k8.get
  have gtk : Has g8 Dt (LstN (natsV (takenOf n σ))) := gtk.ofInts hr.1
  obtain ⟨tk, htk⟩ : ∃ tk, tk = takenOf n σ := ⟨_, rfl⟩
  rw [← htk] at gtk good1 good2 good3
  have tkl : tk.length ≤ n := by
    have h2 := List.length_filter_le (fun k : Nat => σ k == 1) (List.range n)
    rw [List.length_range] at h2
    rw [htk]; exact h2
  have tkn : ∀ k ∈ tk, k < n := fun k hk => by rw [htk] at hk; exact List.mem_range.mp (List.mem_filter.mp hk).1
  have groads8 := groads7.mono k8
  have gcols8 := (gcols5.mono k7).mono k8
  -- if len(taken) < least or ..
  refine r_if (isTrue_or (t_cmp (r_callName (r_built (S.stat T8) nb_len bt_len (r_cw (args_cons (r_local S rfl (args_nil ⟨keeps_builtin _ _, b_lenN (S.stat T8) bmL__len__ (S.baseH gtk) (by rw [List.length_map]; omega) fun t s' g' => ?_⟩))))))))
  have S := S.grow g'
  refine r_local S rfl (P.lt_int (tr_bool ?_))
  rw [if_neg (by rw [List.length_map]; simp; omega)]
  refine isTrue_or (t_cmp (r_callName (r_glob (S.stat T8) ng_rank (r_cw (args_cons (r_cell S rfl (args_cons (r_local S rfl (args_nil ⟨keeps_K (S.stat T8).K (by kernel_rfl), ?_⟩)))))))))
  obtain ⟨g', j1, j2, j3, j4, j5⟩ := S.call2 (Sc := fun _ => none) (fun l p e => by cases e)
  refine wpAny_call (rank_spec (hA.deeper (k := 33) |>.le (by decide)) j1 (T8.mono j2.get) (groads8.mono j2) (gtk.mono j2) r6 (fun k hk => by have := tkn k hk; omega) (by omega) (by omega) fun s' t1 c1 => ?_)
  have S := (j5 s' (fun _ => none) c1 (Led.nil _ _)).sto (fun l p e => over2_old rfl rfl e)
  refine r_callName (r_built (S.stat T8) nb_len bt_len (r_cw (args_cons (r_local S rfl (args_nil ⟨keeps_builtin _ _, b_lenN (S.stat T8) bmL__len__ (S.baseH gtk) (by rw [List.length_map]; omega) fun t s' g' => P.lt_int (tr_bool ?_)⟩)))))
  have S := S.grow g'
  rw [if_neg (by rw [List.length_map]; simp only [decide_eq_true_eq]; unfold qsOf at good2; omega)]
  obtain ⟨vk, ivk, gvk⟩ := gtk.ints
  have lvk := ints_length ivk
  rw [List.length_map] at lvk
  refine isTrue_or (t_cmp (r_callName (r_built (S.stat T8) nb_len bt_len (r_cw (args_cons (r_setG (fun j => natsV (colsOf cols (tk.take j))) (r_local S rfl ⟨_, _, _, itb_list hA.hd (S.baseH gvk), fun j hj => by unfold colsOf; rw [List.length_map, List.length_map, List.length_take]; omega, ⟨rfl, fun h k => (S.baseH gvk).mono k, fun j v C D' P' s3 hj hval3 X3 => ?_⟩, fun Dset s' G hDset hDsetf => args_nil ⟨keeps_builtin _ _, ?_⟩⟩)))))))
  · obtain ⟨k, tk', hk, rfl⟩ := vars_get ivk hval3
    have hkn := tkn k (List.mem_of_getElem? hk)
    obtain ⟨cj, hcj⟩ : ∃ cj, cols[k]? = some cj := ⟨_, List.getElem?_eq_getElem (by omega)⟩
    have hD : cols.getD k 0 = cj := by rw [List.getD_eq_getElem?_getD, hcj]; rfl
    refine a_name (r_store X3 fun s4 X4 => te_nil ?_)
    rw [if_pos rfl]
    refine r_sub (r_capt S X4.chg.sub rfl (r_local X4 rfl ⟨inPyListN (X4.stat (S.stat T8)) ((S.baseH gcols8).mono X4.chg.sub), listN_get ((S.baseH gcols8).mono X4.chg.sub) (by rw [List.getElem?_map, hcj]; rfl) (by rw [List.length_map]; omega) fun t5 => ?_⟩))
    refine ⟨⟨_, _, rfl, ?_⟩, _, _, X4⟩
    rw [take_snoc hk]
    unfold colsOf natsV
    rw [List.map_append, List.map_append, List.map_cons, List.map_nil, hD]; rfl
  have S := S.grow G
  rw [List.take_of_length_le (by omega)] at hDset
  have hcard : ∀ us : List Int, us.Nodup → (∀ k, k ∈ us ↔ k ∈ natsV (colsOf cols tk)) → us.length = ncol (colsOf cols tk) := fun us hnd hmem => ncol_card (fun c hc => by
      obtain ⟨k, hk, rfl⟩ := List.mem_map.mp hc
      have hk' := tkn k hk
      rw [List.getD_eq_getElem?_getD, List.getElem?_eq_getElem (by omega)]
      exact c3 _ (List.getElem_mem _)) hnd hmem
  refine b_lenSet hDset (fun us t2 s2 hnd hmem hlen2 g2 => ?_) (fun us hnd hmem => ?_)
  · have S := S.grow g2
    refine r_callName (r_built (S.stat T8) nb_len bt_len (r_cw (args_cons (r_local S rfl (args_nil ⟨keeps_builtin _ _, b_lenN (S.stat T8) bmL__len__ (S.baseH gtk) (by rw [List.length_map]; omega) fun t s' g' => P.lt_int (tr_bool ?_)⟩)))))
    have S := S.grow g'
    rw [hcard us hnd hmem, if_neg (by rw [List.length_map]; simp only [decide_eq_true_eq]; omega)]
    refine isTrue_or_nil ?_
    rw [if_neg (by decide)]
    refine r_nil (k_next ?_)
    have S := S.fit2 (m' := lo [("rings", .ref ra), ("least", .int (leastP n rds cols (2 ^ n) : Nat) tl)]) (cm' := lo [("roads", .ref Dr), ("colours", .ref Dc)])
    -- return _law_choice(colours, rings, least + 1) is None
    refine r_ret (r_cmp (r_callName (r_glob (S.stat T8) ng_choice (r_cw (args_cons (r_cell S rfl (args_cons (r_local S rfl (args_cons (r_bin (r_local S rfl (r_int fun t3 s3 g3 => i_add fun t4 s4 g4 => ?_))))))))))))
    have S := (S.grow g3).grow g4
    rw [show ((leastP n rds cols (2 ^ n) : Nat) : Int) + 1 = ((leastP n rds cols (2 ^ n) + 1 : Nat) : Int) from by omega]
    refine args_nil ⟨keeps_K (S.stat T8).K (by kernel_rfl), ?_⟩
    obtain ⟨g9, q1, q2, q3, q4, _, _⟩ := S.callL (Sc := S00) (fun l p e => e)
    have q3 := q3.sub (S' := outS [(Lc, lo [("rings", .ref ra), ("least", .int (leastP n rds cols (2 ^ n) : Nat) tl)])]) fun l p e => (push_out l).trans (out_cs l p e)
    have k58 : Sub g5 g8 := k7.trans k8
    refine wpAny_call (choice_spec (rgs := rgs) (cols := cols) (cnt := leastP n rds cols (2 ^ n) + 1) (fr := [(Lc, lo [("rings", .ref ra), ("least", .int (leastP n rds cols (2 ^ n) : Nat) tl)])]) (hA.deeper (k := 33) |>.le (by decide)) (Around.frames_deeper hfr) (Fits.cons (outer := []) (fr := []) ⟨rfl, fun e he => by cases he⟩ rfl (by intro z; cases z)) q1 (T8.mono q2.get)
      (gcols8.mono q2) ((gring.mono k58).mono q2) (fun r hr => ((grl r hr).mono k58).mono q2) (by omega) (by omega) hrings rgl q3 (fun s' hno d3 L3 => ?_) fun s' b a σ' hσ' hperm hlk d3 L3 hbs => ?_)
    · refine r_none (is_none_none ?_)
      exact h s' ((Chg.weaken (k05.trans k58) S.chg).trans (Chg.weaken ((k05.trans k58).trans q2) d3))
    · rw [hcn, hrg] at hσ'
      exact absurd hσ' (hpu.no σ')
  · rw [hcard us hnd hmem]
    unfold ncol
    have := List.length_filter_le (fun c => (colsOf cols tk).contains c) (List.range 3)
    rw [List.length_range] at this
    omega
end
end Mine
end

section
namespace Mine

/-- a set of numbers as a mask -/
def mk (l : List Nat) : Nat := l.foldl (fun m q => m ||| 2 ^ q) 0
theorem mk_fold (l : List Nat) : ∀ m j : Nat, (l.foldl (fun m q => m ||| 2 ^ q) m).testBit j = (m.testBit j || decide (j ∈ l)) := by
  induction l with
  | nil => intro m j; simp
  | cons q r ih =>
    intro m j
    rw [List.foldl_cons, ih, Nat.testBit_or, Nat.testBit_two_pow]
    by_cases h : q = j
    · subst h; simp
    · have : ¬ j = q := fun e => h e.symm
      simp [h, this]
theorem mk_bit (l : List Nat) (j : Nat) : (mk l).testBit j = decide (j ∈ l) := by unfold mk; rw [mk_fold]; simp
theorem mk_lt {l : List Nat} {n : Nat} (h : ∀ q ∈ l, q < n) : mk l < 2 ^ n := by
  refine Nat.lt_pow_two_of_testBit _ fun i hi => ?_
  rw [mk_bit]
  exact decide_eq_false fun hm => absurd (h i hm) (Nat.not_lt.mpr hi)
theorem mk_or {l l' : List Nat} (h : ∀ q ∈ l, q ∈ l') : mk l ||| mk l' = mk l' := by
  refine Nat.eq_of_testBit_eq fun i => ?_
  rw [Nat.testBit_or, mk_bit, mk_bit]
  by_cases h1 : i ∈ l
  · simp [h1, h i h1]
  · simp [h1]

def cnf (l : List Nat) : List Nat := l.map fun x => l.idxOf x
def nd (c : List Nat) : Nat := ((List.range 4).filter fun i => c.getD i 0 == i).length
def Cm (m : Nat) : List Nat := (List.range 6).foldl (fun c q => if m.testBit q = true then cnf (rkStep (c, 0) q).1 else c) [0, 1, 2, 3]
/-- the rank of a mask of pairs -/
def Rm (m : Nat) : Nat := (340277174544850476509603259240095017364 >>> (2 * m)) &&& 3

def okD1 (l : List Nat) (q : Nat) : Bool := cnf (rkStep (l, 0) q).1 == cnf (rkStep (cnf l, 0) q).1 && nd (cnf (rkStep (l, 0) q).1) + (rkStep (l, 0) q).2 == nd (cnf l)
theorem d1 : ((List.range 4).all fun a => (List.range 4).all fun b => (List.range 4).all fun c => (List.range 4).all fun d => (List.range 6).all fun q => okD1 [a, b, c, d] q) = true := by decide +kernel
theorem d2 : ((List.range 64).all fun m => (List.range 6).all fun q => cnf (rkStep (Cm m, 0) q).1 == Cm (m ||| 2 ^ q)) = true := by decide +kernel
theorem d3 : ((List.range 64).all fun m => nd (Cm m) + Rm m == 4 && decide (Rm m ≤ 3)) = true := by decide +kernel
theorem d4 : ((List.range 64).all fun m => (List.range 64).all fun m' => decide (Rm m ≤ Rm (m ||| m'))) = true := by decide +kernel

theorem all_range {n : Nat} {p : Nat → Bool} (h : (List.range n).all p = true) {k : Nat} (hk : k < n) : p k = true := List.all_eq_true.mp h k (List.mem_range.mpr hk)
theorem rkStep_snd (l : List Nat) (r q : Nat) : rkStep (l, r) q = ((rkStep (l, 0) q).1, r + (rkStep (l, 0) q).2) := by
  unfold rkStep
  dsimp only
  split
  · rfl
  · simp
theorem four {l : List Nat} (h : l.length = 4) (h4 : ∀ x ∈ l, x < 4) : ∃ a b c d, a < 4 ∧ b < 4 ∧ c < 4 ∧ d < 4 ∧ l = [a, b, c, d] := by
  match l, h with
  | [a, b, c, d], _ => exact ⟨a, b, c, d, h4 a (by simp), h4 b (by simp), h4 c (by simp), h4 d (by simp), rfl⟩
theorem rkStep_lt {l : List Nat} {q : Nat} (h4 : ∀ x ∈ l, x < 4) : ∀ x ∈ (rkStep (l, 0) q).1, x < 4 := by
  intro x hx
  unfold rkStep at hx
  dsimp only at hx
  split at hx
  · exact h4 x hx
  · obtain ⟨y, hy, rfl⟩ := List.mem_map.mp hx
    split
    · rw [List.getD_eq_getElem?_getD]
      cases e : l[(pairN q).1]? with
      | none => decide
      | some z => exact h4 z (List.mem_of_getElem? e)
    · exact h4 y hy
theorem rank_fold (qs : List Nat) (h6 : ∀ q ∈ qs, q < 6) : ∀ (l : List Nat) (r m : Nat), l.length = 4 → (∀ x ∈ l, x < 4) → m < 64 → cnf l = Cm m → r + nd (Cm m) = 4 →
    (qs.foldl rkStep (l, r)).2 + nd (Cm (qs.foldl (fun m q => m ||| 2 ^ q) m)) = 4 := by
  induction qs with
  | nil => intro l r m _ _ _ _ h; exact h
  | cons q rest ih =>
    intro l r m hl h4 hm hc hr
    have hq := h6 q List.mem_cons_self
    rw [List.foldl_cons, List.foldl_cons, rkStep_snd]
    obtain ⟨a, b, c, d, ha, hb, hcc, hd, rfl⟩ := four hl h4
    have e1 := all_range (all_range (all_range (all_range (all_range d1 ha) hb) hcc) hd) hq
    unfold okD1 at e1
    rw [Bool.and_eq_true, beq_iff_eq, beq_iff_eq] at e1
    have e2 := all_range (all_range d2 hm) hq
    rw [beq_iff_eq] at e2
    refine ih (fun q' h => h6 q' (List.mem_cons_of_mem _ h)) _ _ _ (by rw [rkStep_len]; rfl) (rkStep_lt h4) ?_ ?_ ?_
    · have h2 : 2 ^ q < 2 ^ 6 := Nat.pow_lt_pow_right (by decide) hq
      exact Nat.or_lt_two_pow (n := 6) hm h2
    · rw [e1.1, hc, e2]
    · rw [← e2, ← hc, ← e1.1]
      have := e1.2
      rw [← hc] at hr
      omega
theorem rank_mk {qs : List Nat} (h6 : ∀ q ∈ qs, q < 6) : rank qs = Rm (mk qs) := by
  have h := rank_fold qs h6 [0, 1, 2, 3] 0 0 rfl (by decide) (by decide) (by decide +kernel) (by decide +kernel)
  have hm : mk qs < 64 := mk_lt h6
  have := all_range d3 hm
  rw [Bool.and_eq_true, beq_iff_eq] at this
  unfold rank rankP
  unfold mk at this ⊢
  have := this.1
  omega
theorem Rm_le3 {m : Nat} (h : m < 64) : Rm m ≤ 3 := by
  have := all_range d3 h
  rw [Bool.and_eq_true, decide_eq_true_iff] at this
  exact this.2
theorem Rm_or {m m' : Nat} (h : m < 64) (h' : m' < 64) : Rm m ≤ Rm (m ||| m') := of_decide_eq_true (all_range (all_range d4 h) h')
theorem rank_mono {l l' : List Nat} (h6 : ∀ q ∈ l', q < 6) (h : ∀ q ∈ l, q ∈ l') : rank l ≤ rank l' := by
  have h6' : ∀ q ∈ l, q < 6 := fun q hq => h6 q (h q hq)
  rw [rank_mk h6, rank_mk h6', ← mk_or h]
  exact Rm_or (mk_lt (n := 6) h6') (mk_lt (n := 6) h6)
theorem rank_le3 {l : List Nat} (h6 : ∀ q ∈ l, q < 6) : rank l ≤ 3 := by rw [rank_mk h6]; exact Rm_le3 (mk_lt (n := 6) h6)
theorem rank_snoc (l : List Nat) (q : Nat) : rank (l ++ [q]) ≤ rank l + 1 := by
  unfold rank
  rw [rankP_snoc]
  unfold rkStep
  split <;> simp
theorem rank_len (l : List Nat) : rank l ≤ l.length := by
  have : ∀ k, k ≤ l.length → rank (l.take k) ≤ k := by
    intro k
    induction k with
    | zero => intro _; rw [List.take_zero]; decide
    | succ k ih =>
      intro hk
      rw [take_snoc (x := l[k]) (List.getElem?_eq_getElem hk)]
      have := rank_snoc (l.take k) l[k]
      have := ih (by omega)
      omega
  have := this l.length (Nat.le_refl _)
  rwa [List.take_of_length_le (Nat.le_refl _)] at this
end Mine
end

section
namespace Mine

def subs : List Nat → List (List Nat)
  | [] => [[]]
  | a :: l => subs l ++ (subs l).map (a :: ·)
theorem subs_sub : ∀ {l s : List Nat}, s ∈ subs l → s.Sublist l
  | [], s, h => by rw [List.mem_singleton.mp h]; exact List.Sublist.refl _
  | a :: l, s, h => by
    rcases List.mem_append.mp h with h | h
    · exact (subs_sub h).cons a
    · obtain ⟨t, ht, rfl⟩ := List.mem_map.mp h
      exact (subs_sub ht).cons_cons a
theorem sub_subs : ∀ {l s : List Nat}, s.Sublist l → s ∈ subs l := by
  intro l s h
  induction h with
  | slnil => exact List.mem_singleton.mpr rfl
  | cons a _ ih => exact List.mem_append_left _ ih
  | cons_cons a _ ih => exact List.mem_append_right _ (List.mem_map.mpr ⟨_, ih, rfl⟩)
/-- the lists of n numbers below 6 -/
def lists6 : Nat → List (List Nat)
  | 0 => [[]]
  | n + 1 => (lists6 n).flatMap fun l => (List.range 6).map fun q => q :: l
theorem mem_lists6 : ∀ {l : List Nat}, (∀ q ∈ l, q < 6) → l ∈ lists6 l.length
  | [], _ => List.mem_singleton.mpr rfl
  | a :: l, h => List.mem_flatMap.mpr ⟨l, mem_lists6 fun q hq => h q (List.mem_cons_of_mem _ hq), List.mem_map.mpr ⟨a, List.mem_range.mpr (h a List.mem_cons_self), rfl⟩⟩
/-- an independent list has no ring -/
def okB2 (p : List Nat) : Bool := rank p != p.length || (subs p).all fun s => !ringQ s
/-- a pair more that does not raise the rank closes a ring -/
def okB1 (p : List Nat) : Bool := rank p != p.length || (List.range 6).all fun q => rank (p ++ [q]) != p.length || (subs p).any fun s => ringQ (s ++ [q])
theorem b2 : ((List.range 4).all fun n => (lists6 n).all okB2) = true := by decide +kernel
theorem b1 : ((List.range 4).all fun n => (lists6 n).all okB1) = true := by decide +kernel

theorem no_ring {p s : List Nat} (h6 : ∀ q ∈ p, q < 6) (h3 : p.length ≤ 3) (hr : rank p = p.length) (hs : s.Sublist p) : ringQ s = false := by
  have h := List.all_eq_true.mp (all_range b2 (k := p.length) (by omega)) p (mem_lists6 h6)
  unfold okB2 at h
  rw [hr] at h
  simp only [bne_self_eq_false, Bool.false_or] at h
  have := List.all_eq_true.mp h s (sub_subs hs)
  simpa using this
theorem has_ring {qs : List Nat} (h6 : ∀ q ∈ qs, q < 6) (hlt : rank qs < qs.length) : ∃ s, s.Sublist qs ∧ ringQ s = true := by
  have key : ∀ k, k ≤ qs.length → rank (qs.take k) < k → ∃ s, s.Sublist qs ∧ ringQ s = true := by
    intro k
    induction k with
    | zero => intro _ h; exact absurd h (Nat.not_lt_zero _)
    | succ k ih =>
      intro hk h
      have hk' : qs[k]? = some qs[k] := List.getElem?_eq_getElem hk
      have hp6 : ∀ q ∈ qs.take k, q < 6 := fun q hq => h6 q (List.mem_of_mem_take hq)
      have hlen : (qs.take k).length = k := by rw [List.length_take]; omega
      by_cases hlow : rank (qs.take k) < k
      · exact ih (by omega) hlow
      · have h1 := rank_len (qs.take k)
        have h2 := rank_le3 hp6
        have e1 : rank (qs.take k) = (qs.take k).length := by omega
        rw [take_snoc hk'] at h
        have h3 : rank (qs.take k) ≤ rank (qs.take k ++ [qs[k]]) := rank_mono (fun q hq => by
          rcases List.mem_append.mp hq with hq | hq
          · exact hp6 q hq
          · rw [List.mem_singleton.mp hq]; exact h6 _ (List.getElem_mem hk)) fun q hq => List.mem_append_left _ hq
        have hb := List.all_eq_true.mp (all_range b1 (k := (qs.take k).length) (by omega)) _ (mem_lists6 hp6)
        unfold okB1 at hb
        rw [e1] at hb
        simp only [bne_self_eq_false, Bool.false_or] at hb
        have hb := all_range hb (h6 _ (List.getElem_mem hk))
        rw [show rank (qs.take k ++ [qs[k]]) = (qs.take k).length from by omega] at hb
        simp only [bne_self_eq_false, Bool.false_or] at hb
        obtain ⟨s, hs, hr⟩ := List.any_eq_true.mp hb
        refine ⟨s ++ [qs[k]], ?_, hr⟩
        have : (s ++ [qs[k]]).Sublist (qs.take k ++ [qs[k]]) := (subs_sub hs).append (List.Sublist.refl _)
        rw [← take_snoc hk'] at this
        exact this.trans (List.take_sublist _ _)
  exact key qs.length (Nat.le_refl _) (by rwa [List.take_of_length_le (Nat.le_refl _)])

/-- a sorted choice out of a list, by membership -/
theorem filter_sub : ∀ {l L : List Nat}, l.Sublist L → L.Nodup → L.filter (fun k => decide (k ∈ l)) = l := by
  intro l L h
  induction h with
  | slnil => intro _; rfl
  | @cons l L a h ih =>
    intro hn
    have hn' := List.nodup_cons.mp hn
    rw [List.filter_cons, if_neg (by simpa using fun hm => hn'.1 (h.subset hm))]
    exact ih hn'.2
  | @cons_cons l L a h ih =>
    intro hn
    have hn' := List.nodup_cons.mp hn
    rw [List.filter_cons, if_pos (by simp)]
    congr 1
    rw [← ih hn'.2]
    refine List.filter_congr fun k hk => ?_
    have hne : k ≠ a := fun e => hn'.1 (e ▸ hk)
    rw [ih hn'.2]
    simp [hne]
theorem chosen_mk {n : Nat} {l : List Nat} (h : l.Sublist (List.range n)) : chosenOf n (mk l) = l ∧ mk l < 2 ^ n := by
  refine ⟨?_, mk_lt fun q hq => List.mem_range.mp (h.subset hq)⟩
  unfold chosenOf
  rw [← filter_sub h List.nodup_range]
  refine List.filter_congr fun k hk => ?_
  rw [mk_bit, filter_sub h List.nodup_range]
theorem mem_rings {n : Nat} {rds l : List Nat} (h : l.Sublist (List.range n)) (hr : ringQ (qsOf rds l) = true) : l ∈ ringsP n rds (2 ^ n) := by
  obtain ⟨e, hlt⟩ := chosen_mk h
  exact List.mem_map.mpr ⟨mk l, List.mem_filter.mpr ⟨List.mem_range.mpr hlt, by rw [e]; exact hr⟩, e⟩
theorem qs_lt {rds l : List Nat} (h6 : ∀ q ∈ rds, q < 6) (hl : ∀ k ∈ l, k < rds.length) : ∀ q ∈ qsOf rds l, q < 6 := by
  intro q hq
  obtain ⟨k, hk, rfl⟩ := List.mem_map.mp hq
  rw [List.getD_eq_getElem?_getD, List.getElem?_eq_getElem (hl k hk)]
  exact h6 _ (List.getElem_mem _)
end Mine
end

section
namespace Mine

theorem sum_taken (σ : Nat → Int) : ∀ l : List Nat, sumBy (ind [1] σ) l = ((l.filter fun k => σ k == 1).length : Int)
  | [] => rfl
  | x :: r => by
    simp only [sumBy]
    rw [sum_taken σ r, List.filter_cons]
    by_cases h : σ x = 1
    · rw [if_pos (by simp [h]), List.length_cons]
      have : ind [1] σ x = 1 := by unfold ind; rw [h]; rfl
      rw [this]; omega
    · rw [if_neg (by simp [h])]
      have : ind [1] σ x = 0 := by
        unfold ind
        rw [if_neg (by simpa using fun e => h e.symm)]
      rw [this]; omega
theorem sum_01 (σ : Nat → Int) : ∀ l : List Nat, (∀ k ∈ l, σ k = 0 ∨ σ k = 1) → sumBy σ l = ((l.filter fun k => σ k == 1).length : Int)
  | [], _ => rfl
  | x :: r, h => by
    simp only [sumBy]
    rw [sum_01 σ r fun k hk => h k (List.mem_cons_of_mem _ hk), List.filter_cons]
    rcases h x List.mem_cons_self with e | e
    · rw [if_neg (by simp [e]), e]; omega
    · rw [if_pos (by simp [e]), e, List.length_cons]; omega
theorem ring_miss (σ : Nat → Int) : ∀ r : List Nat, 1 ≤ sumBy (ind [0] σ) r → ∃ k ∈ r, σ k = 0
  | [], h => by simp only [sumBy] at h; omega
  | x :: r, h => by
    simp only [sumBy] at h
    by_cases e : σ x = 0
    · exact ⟨x, List.mem_cons_self, e⟩
    · have : ind [0] σ x = 0 := by
        unfold ind
        rw [if_neg (by simpa using fun q => e q.symm)]
      obtain ⟨k, hk, ek⟩ := ring_miss σ r (by omega)
      exact ⟨k, List.mem_cons_of_mem _ hk, ek⟩
theorem miss_ring (σ : Nat → Int) : ∀ r : List Nat, (∃ k ∈ r, σ k = 0) → 1 ≤ sumBy (ind [0] σ) r
  | [], h => by obtain ⟨k, hk, _⟩ := h; cases hk
  | x :: r, h => by
    simp only [sumBy]
    have nn : ∀ l : List Nat, 0 ≤ sumBy (ind [0] σ) l := by
      intro l
      induction l with
      | nil => exact Int.le_refl _
      | cons y l ih =>
        simp only [sumBy]
        have : 0 ≤ ind [0] σ y := by unfold ind; split <;> decide
        omega
    obtain ⟨k, hk, ek⟩ := h
    rcases List.mem_cons.mp hk with rfl | hk
    · have : ind [0] σ k = 1 := by unfold ind; rw [ek]; rfl
      have := nn r
      omega
    · have := miss_ring σ r ⟨k, hk, ek⟩
      have : 0 ≤ ind [0] σ x := by unfold ind; split <;> decide
      omega
theorem len_split (p : Nat → Bool) : ∀ l : List Nat, l.length = (l.filter p).length + (l.filter fun k => !p k).length
  | [] => rfl
  | x :: r => by
    rw [List.length_cons, List.filter_cons, List.filter_cons, len_split p r]
    cases p x <;> simp <;> omega
theorem ncol3 (cs : List Nat) : ncol cs = (if cs.contains 0 = true then 1 else 0) + (if cs.contains 1 = true then 1 else 0) + (if cs.contains 2 = true then 1 else 0) := by
  unfold ncol
  show ([0, 1, 2].filter fun c => cs.contains c).length = _
  simp only [List.filter_cons, List.filter_nil]
  split <;> split <;> split <;> rfl
theorem ncol_mono {a b : List Nat} (h : ∀ c ∈ a, c ∈ b) : ncol a ≤ ncol b := by
  have k : ∀ c, (if a.contains c = true then 1 else 0) ≤ (if b.contains c = true then 1 else 0) := fun c => by
    by_cases e : a.contains c = true
    · rw [if_pos e, if_pos (by simpa using h c (by simpa using e))]; exact Nat.le_refl _
    · rw [if_neg e]; exact Nat.zero_le _
  rw [ncol3, ncol3]
  have := k 0
  have := k 1
  have := k 2
  omega
theorem len_cols (cols : List Nat) : ∀ L : List Nat, (∀ k ∈ L, cols.getD k 0 < 3) → L.length = (L.filter fun k => cols.getD k 0 == 0).length + (L.filter fun k => cols.getD k 0 == 1).length + (L.filter fun k => cols.getD k 0 == 2).length
  | [], _ => rfl
  | x :: r, h => by
    have ih := len_cols cols r fun k hk => h k (List.mem_cons_of_mem _ hk)
    have hx := h x List.mem_cons_self
    rw [List.length_cons, List.filter_cons, List.filter_cons, List.filter_cons]
    rcases (show cols.getD x 0 = 0 ∨ cols.getD x 0 = 1 ∨ cols.getD x 0 = 2 by omega) with e | e | e <;> rw [e] <;> simp <;> simp at ih <;> omega
theorem len_ncol {cols L : List Nat} (h3 : ∀ k ∈ L, cols.getD k 0 < 3) (h1 : ∀ c, c < 3 → (L.filter fun k => cols.getD k 0 == c).length ≤ 1) : L.length ≤ ncol (colsOf cols L) := by
  have k : ∀ c, c < 3 → (L.filter fun k => cols.getD k 0 == c).length ≤ if (colsOf cols L).contains c = true then 1 else 0 := fun c hc => by
    by_cases e : (colsOf cols L).contains c = true
    · rw [if_pos e]; exact h1 c hc
    · rw [if_neg e, Nat.le_zero, List.length_eq_zero_iff, List.filter_eq_nil_iff]
      intro x hx hc'
      refine e ?_
      rw [List.contains_iff_mem]
      exact List.mem_map.mpr ⟨x, hx, eq_of_beq hc'⟩
  rw [len_cols cols L h3, ncol3]
  have := k 0 (by decide)
  have := k 1 (by decide)
  have := k 2 (by decide)
  omega

section
variable {n cnt : Nat} {rds cols : List Nat} {σ : Nat → Int}
theorem taken_sub : (takenOf n σ).Sublist (List.range n) := List.filter_sublist
theorem taken_cnt (hS : Sat n cols (ringsP n rds (2 ^ n)) cnt σ) : cnt ≤ (takenOf n σ).length := by
  have := hS.2.2.2
  rw [sum_taken] at this
  unfold takenOf
  omega
theorem col_once (hS : Sat n cols (ringsP n rds (2 ^ n)) cnt σ) {c : Nat} (hc : c < 3) : ((takenOf n σ).filter fun k => cols.getD k 0 == c).length ≤ 1 := by
  have h := hS.2.1 c hc
  rw [sum_01 σ _ fun k hk => hS.1 k (rowOf_mem.mp hk).1] at h
  have e : (rowOf n cols c).filter (fun k => σ k == 1) = (takenOf n σ).filter fun k => cols.getD k 0 == c := by
    unfold rowOf takenOf
    rw [List.filter_filter, List.filter_filter]
    exact List.filter_congr fun k _ => Bool.and_comm _ _
  rw [e] at h
  omega
/-- what is taken has no ring: its rank is its size -/
theorem taken_rank (h6 : ∀ q ∈ rds, q < 6) (hn : n = rds.length) (hS : Sat n cols (ringsP n rds (2 ^ n)) cnt σ) {l : List Nat} (hl : l.Sublist (takenOf n σ)) : l.length ≤ rank (qsOf rds l) := by
  have hlt : ∀ k ∈ l, k < rds.length := fun k hk => by rw [← hn]; exact List.mem_range.mp (taken_sub.subset (hl.subset hk))
  refine Nat.le_of_not_lt fun hlow => ?_
  have hq : (qsOf rds l).length = l.length := List.length_map ..
  obtain ⟨s, hs, hr⟩ := has_ring (qs_lt h6 hlt) (by rw [hq]; exact hlow)
  obtain ⟨l', hl', rfl⟩ := List.sublist_map_iff.mp hs
  have hsub : l'.Sublist (List.range n) := (hl'.trans hl).trans taken_sub
  obtain ⟨k, hk, ek⟩ := ring_miss σ l' (hS.2.2.1 l' (mem_rings hsub hr))
  have := (List.mem_filter.mp ((hl'.trans hl).subset hk)).2
  rw [ek] at this
  cases this
theorem taken_val (h6 : ∀ q ∈ rds, q < 6) (h3 : ∀ c ∈ cols, c < 3) (hn : n = rds.length) (hc : cols.length = n) (hS : Sat n cols (ringsP n rds (2 ^ n)) cnt σ) (part : Nat) : (takenOf n σ).length ≤ valP n rds cols part := by
  have c3 : ∀ k, k < n → cols.getD k 0 < 3 := fun k hk => by
    rw [List.getD_eq_getElem?_getD, List.getElem?_eq_getElem (by omega)]
    exact h3 _ (List.getElem_mem _)
  have tn : ∀ k ∈ takenOf n σ, k < n := fun k hk => List.mem_range.mp (taken_sub.subset hk)
  rw [len_split (fun k => (chosenOf n part).contains k) (takenOf n σ)]
  unfold valP
  refine Nat.add_le_add ?_ ?_
  · refine Nat.le_trans (taken_rank h6 hn hS List.filter_sublist) (rank_mono (qs_lt h6 fun k hk => by rw [← hn]; exact chosen_lt hk) fun q hq => ?_)
    obtain ⟨k, hk, rfl⟩ := List.mem_map.mp hq
    have := (List.mem_filter.mp hk).2
    exact List.mem_map.mpr ⟨k, by simpa using this, rfl⟩
  · refine Nat.le_trans (len_ncol (cols := cols) (fun k hk => c3 k (tn k (List.mem_filter.mp hk).1)) fun c hc => ?_) (ncol_mono fun c hc => ?_)
    · refine Nat.le_trans ?_ (col_once hS hc)
      exact (List.Sublist.filter _ List.filter_sublist).length_le
    · obtain ⟨k, hk, rfl⟩ := List.mem_map.mp hc
      have hk' := List.mem_filter.mp hk
      exact List.mem_map.mpr ⟨k, List.mem_filter.mpr ⟨List.mem_range.mpr (tn k hk'.1), hk'.2⟩, rfl⟩
theorem le_least {m : Nat} (h0 : m ≤ n) (h : ∀ p, m ≤ valP n rds cols p) : ∀ i, m ≤ leastP n rds cols i
  | 0 => h0
  | i + 1 => by rw [leastP_succ]; have := le_least h0 h i; have := h i; omega
theorem least_val {p : Nat} : ∀ i, p < i → leastP n rds cols i ≤ valP n rds cols p
  | 0, h => absurd h (Nat.not_lt_zero _)
  | i + 1, h => by
    rw [leastP_succ]
    rcases Nat.lt_succ_iff_lt_or_eq.mp h with h | rfl
    · have := least_val i h; omega
    · omega
theorem taken_least (h6 : ∀ q ∈ rds, q < 6) (h3 : ∀ c ∈ cols, c < 3) (hn : n = rds.length) (hc : cols.length = n) (hS : Sat n cols (ringsP n rds (2 ^ n)) cnt σ) (i : Nat) : (takenOf n σ).length ≤ leastP n rds cols i := by
  refine le_least ?_ (fun p => taken_val h6 h3 hn hc hS p) i
  have := taken_sub (n := n) (σ := σ) |>.length_le
  rwa [List.length_range] at this
end
end Mine
end

section
namespace Mine

def two (s t : Nat) : Bool := (List.range 6).any fun e => s.testBit e && (List.range 6).any fun f => t.testBit f && e != f
theorem e2a : ((List.range 64).all fun s => (List.range 64).all fun t => s == 0 || t == 0 || Nat.blt (Rm (s ||| t)) 2 || two s t) = true := by decide +kernel
theorem e2b : ((List.range 64).all fun s => (List.range 64).all fun t => s == 0 || t == 0 || two s t || s == t) = true := by decide +kernel
theorem e2c : ((List.range 6).all fun e => (List.range 6).all fun f => e == f || rank [e, f] == 2) = true := by decide +kernel
theorem e1c : ((List.range 6).all fun e => rank [e] == 1) = true := by decide +kernel
/-- the pairs that make a tree with e and f -/
def I2 (e f : Nat) : Nat := (182948628213237945695937854255151790406959914402551874452630784 >>> (6 * (6 * e + f))) &&& 63
def hit (s t g : Nat) : Bool := (List.range 6).any fun e => s.testBit e && (List.range 6).any fun f => t.testBit f && (I2 e f).testBit g
def Bm (s t : Nat) : Nat := mk ((List.range 6).filter fun g => !hit s t g)
theorem e3a : ((List.range 6).all fun e => (List.range 6).all fun f => (List.range 6).all fun g => !(I2 e f).testBit g || rank [e, f, g] == 3) = true := by decide +kernel
def okB3 (s t b : Nat) : Bool := s == 0 || t == 0 || b == 0 || Nat.blt (Rm (s ||| t)) 2 || Nat.blt (Rm (s ||| b)) 2 || Nat.blt (Rm (t ||| b)) 2 || Nat.blt (Rm (s ||| t ||| b)) 3
theorem e3b : ((List.range 64).all fun s => (List.range 64).all fun t => okB3 s t (Bm s t)) = true := by decide +kernel

theorem two_of {s t : Nat} (h : two s t = true) : ∃ e f, e < 6 ∧ f < 6 ∧ s.testBit e = true ∧ t.testBit f = true ∧ rank [e, f] = 2 := by
  obtain ⟨e, he, h⟩ := List.any_eq_true.mp h
  rw [Bool.and_eq_true] at h
  obtain ⟨f, hf, h'⟩ := List.any_eq_true.mp h.2
  rw [Bool.and_eq_true] at h'
  have he := List.mem_range.mp he
  have hf := List.mem_range.mp hf
  have := all_range (all_range e2c he) hf
  rw [Bool.or_eq_true, beq_iff_eq, beq_iff_eq] at this
  have hne : e ≠ f := by simpa using h'.2
  exact ⟨e, f, he, hf, h.1, h'.1, this.resolve_left hne⟩
theorem Rm_le_or {m m' : Nat} {k : Nat} (h : m < 64) (h' : m' < 64) (hk : k ≤ Rm m) : k ≤ Rm (m ||| m') := Nat.le_trans hk (Rm_or h h')
theorem or_lt {m m' : Nat} (h : m < 64) (h' : m' < 64) : m ||| m' < 64 := Nat.or_lt_two_pow (n := 6) h h'

/-- three colours, a pair of each: a tree, or the bound says no -/
theorem three {s0 s1 s2 : Nat} (h0 : s0 < 64) (h1 : s1 < 64) (h2 : s2 < 64) (n0 : s0 ≠ 0) (n1 : s1 ≠ 0) (n2 : s2 ≠ 0) (a : 2 ≤ Rm (s0 ||| s1)) (b : 2 ≤ Rm (s0 ||| s2)) (c : 2 ≤ Rm (s1 ||| s2)) (d : 3 ≤ Rm (s0 ||| s1 ||| s2)) :
    ∃ e f g, e < 6 ∧ f < 6 ∧ g < 6 ∧ s0.testBit e = true ∧ s1.testBit f = true ∧ s2.testBit g = true ∧ rank [e, f, g] = 3 := by
  by_cases hh : ∃ g, g < 6 ∧ s2.testBit g = true ∧ hit s0 s1 g = true
  · obtain ⟨g, hg, hg2, hhit⟩ := hh
    obtain ⟨e, he, h⟩ := List.any_eq_true.mp hhit
    rw [Bool.and_eq_true] at h
    obtain ⟨f, hf, h'⟩ := List.any_eq_true.mp h.2
    rw [Bool.and_eq_true] at h'
    have he := List.mem_range.mp he
    have hf := List.mem_range.mp hf
    have := all_range (all_range (all_range e3a he) hf) hg
    rw [h'.2] at this
    simp only [Bool.not_true, Bool.false_or, beq_iff_eq] at this
    exact ⟨e, f, g, he, hf, hg, h.1, h'.1, hg2, this⟩
  · exfalso
    have bit : ∀ g, (Bm s0 s1).testBit g = (decide (g < 6) && !hit s0 s1 g) := fun g => by
      unfold Bm
      rw [mk_bit]
      rw [Bool.eq_iff_iff]
      simp [List.mem_filter]
    have hB : Bm s0 s1 < 64 := mk_lt (n := 6) fun q hq => List.mem_range.mp (List.mem_filter.mp hq).1
    have hsub : s2 ||| Bm s0 s1 = Bm s0 s1 := by
      refine Nat.eq_of_testBit_eq fun g => ?_
      rw [Nat.testBit_or, bit]
      by_cases hg : s2.testBit g = true
      · have hg6 : g < 6 := by
          refine Nat.lt_of_not_le fun hle => ?_
          have : s2.testBit g = false := Nat.testBit_lt_two_pow (Nat.lt_of_lt_of_le h2 (Nat.pow_le_pow_right (n := 2) (by decide) hle))
          rw [this] at hg; cases hg
        have : hit s0 s1 g = false := by
          cases e : hit s0 s1 g with
          | false => rfl
          | true => exact absurd ⟨g, hg6, hg, e⟩ hh
        rw [hg, this]; simp [hg6]
      · rw [Bool.not_eq_true] at hg
        rw [hg]; simp
    have nB : Bm s0 s1 ≠ 0 := fun e => by
      rw [e, Nat.or_zero] at hsub
      exact n2 hsub
    have g1 : 2 ≤ Rm (s0 ||| Bm s0 s1) := by
      have := Rm_le_or (or_lt h0 h2) hB b
      rwa [Nat.or_assoc, hsub] at this
    have g2 : 2 ≤ Rm (s1 ||| Bm s0 s1) := by
      have := Rm_le_or (or_lt h1 h2) hB c
      rwa [Nat.or_assoc, hsub] at this
    have g3 : 3 ≤ Rm (s0 ||| s1 ||| Bm s0 s1) := by
      have := Rm_le_or (or_lt (or_lt h0 h1) h2) hB d
      rwa [Nat.or_assoc (s0 ||| s1), hsub] at this
    have h := all_range (all_range e3b h0) h1
    unfold okB3 at h
    simp only [Bool.or_eq_true, beq_iff_eq, Nat.blt_eq] at h
    omega
/-- two colours -/
theorem pairUp {s t : Nat} (hs : s < 64) (ht : t < 64) (ns : s ≠ 0) (nt : t ≠ 0) (a : 2 ≤ Rm (s ||| t)) : two s t = true := by
  have h := all_range (all_range e2a hs) ht
  simp only [Bool.or_eq_true, beq_iff_eq, Nat.blt_eq] at h
  rcases h with ((h | h) | h) | h
  · exact absurd h ns
  · exact absurd h nt
  · omega
  · exact h
theorem same_of {s t : Nat} (hs : s < 64) (ht : t < 64) (ns : s ≠ 0) (nt : t ≠ 0) (a : two s t = false) : s = t := by
  have h := all_range (all_range e2b hs) ht
  simp only [Bool.or_eq_true, beq_iff_eq] at h
  rcases h with ((h | h) | h) | h
  · exact absurd h ns
  · exact absurd h nt
  · rw [a] at h; cases h
  · exact h
end Mine
end

section
namespace Mine

theorem one_le {l : List Nat} (nd : l.Nodup) (h : ∀ a ∈ l, ∀ b ∈ l, a = b) : l.length ≤ 1 := by
  match l, nd, h with
  | [], _, _ => exact Nat.zero_le _
  | [_], _, _ => exact Nat.le_refl _
  | a :: b :: r, nd, h =>
    have e := h a List.mem_cons_self b (List.mem_cons_of_mem _ List.mem_cons_self)
    exact absurd (e ▸ List.mem_cons_self) (List.nodup_cons.mp nd).1

def sigK (ks : List Nat) (k : Nat) : Int := if k ∈ ks then 1 else 0
theorem sigK_eq (ks : List Nat) (k : Nat) : (sigK ks k == 1) = decide (k ∈ ks) := by
  unfold sigK
  by_cases h : k ∈ ks
  · rw [if_pos h, decide_eq_true h]; rfl
  · rw [if_neg h, decide_eq_false h]; rfl
theorem ex_of {n v : Nat} {rds cols ks : List Nat} (h6 : ∀ q ∈ rds, q < 6) (hn : n = rds.length) (nd : ks.Nodup) (lt : ∀ k ∈ ks, k < n) (hcol : ∀ a ∈ ks, ∀ b ∈ ks, cols.getD a 0 = cols.getD b 0 → a = b) (h3 : ks.length ≤ 3) (hr : rank (qsOf rds ks) = ks.length) (hv : v ≤ ks.length) :
    ∃ σ, Sat n cols (ringsP n rds (2 ^ n)) v σ := by
  have eT : takenOf n (sigK ks) = (List.range n).filter fun k => decide (k ∈ ks) := List.filter_congr fun k _ => sigK_eq ks k
  have memT : ∀ k, k ∈ takenOf n (sigK ks) ↔ k ∈ ks := fun k => by
    rw [eT, List.mem_filter, List.mem_range, decide_eq_true_iff]
    exact ⟨fun h => h.2, fun h => ⟨lt k h, h⟩⟩
  have pT : (takenOf n (sigK ks)).Perm ks := perm_of_mem (List.Pairwise.sublist taken_sub List.nodup_range) nd memT
  have lT := pT.length_eq
  have h01 : ∀ k, sigK ks k = 0 ∨ sigK ks k = 1 := fun k => by unfold sigK; split <;> simp
  refine ⟨sigK ks, fun k _ => h01 k, fun c hc => ?_, fun r hr' => ?_, ?_⟩
  · rw [sum_01 _ _ fun k _ => h01 k]
    have : ((rowOf n cols c).filter fun k => sigK ks k == 1).length ≤ 1 := by
      refine one_le (List.Pairwise.filter _ (List.Pairwise.filter _ List.nodup_range)) fun a ha b hb => ?_
      obtain ⟨a1, a2⟩ := List.mem_filter.mp ha
      obtain ⟨b1, b2⟩ := List.mem_filter.mp hb
      rw [sigK_eq, decide_eq_true_iff] at a2 b2
      have a3 := eq_of_beq (List.mem_filter.mp a1).2
      have b3 := eq_of_beq (List.mem_filter.mp b1).2
      exact hcol a a2 b b2 (a3.trans b3.symm)
    omega
  · refine miss_ring _ r (Classical.byContradiction fun hno => ?_)
    have hall : ∀ k ∈ r, k ∈ ks := fun k hk => Classical.byContradiction fun hk' => hno ⟨k, hk, by unfold sigK; rw [if_neg hk']⟩
    obtain ⟨p, hp, rfl⟩ := List.mem_map.mp hr'
    have hq := (List.mem_filter.mp hp).2
    have hsub : (chosenOf n p).Sublist (takenOf n (sigK ks)) := by
      have e : chosenOf n p = (takenOf n (sigK ks)).filter fun k => p.testBit k := by
        rw [eT, List.filter_filter]
        unfold chosenOf
        refine List.filter_congr fun k hk => ?_
        cases e : p.testBit k with
        | false => simp
        | true =>
          have : k ∈ ks := hall k (List.mem_filter.mpr ⟨hk, e⟩)
          simp [this]
      rw [e]; exact List.filter_sublist
    have q6 : ∀ q ∈ qsOf rds (takenOf n (sigK ks)), q < 6 := qs_lt h6 fun k hk => by rw [← hn]; exact lt k ((memT k).mp hk)
    have q6' : ∀ q ∈ qsOf rds ks, q < 6 := qs_lt h6 fun k hk => by rw [← hn]; exact lt k hk
    have e1 : rank (qsOf rds (takenOf n (sigK ks))) = rank (qsOf rds ks) := by
      have pm : (qsOf rds (takenOf n (sigK ks))).Perm (qsOf rds ks) := pT.map _
      exact Nat.le_antisymm (rank_mono q6' fun q hq => pm.subset hq) (rank_mono q6 fun q hq => pm.symm.subset hq)
    have eL : (qsOf rds (takenOf n (sigK ks))).length = ks.length := by unfold qsOf; rw [List.length_map, lT]
    have := no_ring (p := qsOf rds (takenOf n (sigK ks))) (s := qsOf rds (chosenOf n p)) q6 (by omega) (by rw [e1, eL, hr]) (List.Sublist.map _ hsub)
    rw [this] at hq
    cases hq
  · rw [sum_taken]
    have : ((List.range n).filter fun k => sigK ks k == 1).length = ks.length := lT
    omega

/-- the pairs of one colour -/
def Sc (n : Nat) (rds cols : List Nat) (c : Nat) : Nat := mk (qsOf rds (rowOf n cols c))
section
variable {n : Nat} {rds cols : List Nat}
theorem Sc_bit {c i : Nat} : (Sc n rds cols c).testBit i = true ↔ ∃ k, k < n ∧ cols.getD k 0 = c ∧ rds.getD k 0 = i := by
  unfold Sc
  rw [mk_bit, decide_eq_true_iff]
  constructor
  · intro h
    obtain ⟨k, hk, e⟩ := List.mem_map.mp h
    have := List.mem_filter.mp hk
    exact ⟨k, List.mem_range.mp this.1, eq_of_beq this.2, e⟩
  · rintro ⟨k, hk, e1, e2⟩
    exact List.mem_map.mpr ⟨k, List.mem_filter.mpr ⟨List.mem_range.mpr hk, by rw [e1]; exact beq_self_eq_true c⟩, e2⟩
theorem Sc_ne {c : Nat} : Sc n rds cols c ≠ 0 ↔ ∃ k, k < n ∧ cols.getD k 0 = c := by
  constructor
  · intro h
    refine Classical.byContradiction fun hno => h ?_
    have : rowOf n cols c = [] := List.filter_eq_nil_iff.mpr fun k hk e => hno ⟨k, List.mem_range.mp hk, eq_of_beq e⟩
    unfold Sc
    rw [this]; rfl
  · rintro ⟨k, hk, e⟩ h
    have := (Sc_bit (n := n) (rds := rds) (cols := cols) (c := c) (i := rds.getD k 0)).mpr ⟨k, hk, e, rfl⟩
    rw [h, Nat.zero_testBit] at this
    cases this
theorem Sc_lt (h6 : ∀ q ∈ rds, q < 6) (hn : n = rds.length) (c : Nat) : Sc n rds cols c < 64 := mk_lt (n := 6) (qs_lt h6 fun k hk => by rw [← hn]; exact List.mem_range.mp (List.mem_filter.mp hk).1)
/-- the mask of the colours that t takes -/
def tm (n : Nat) (rds cols : List Nat) (t : Nat → Bool) (c : Nat) : Nat := if t c = true then Sc n rds cols c else 0
/-- a colour that t leaves and that is there -/
def ti (n : Nat) (rds cols : List Nat) (t : Nat → Bool) (c : Nat) : Nat := if t c = true then 0 else if Sc n rds cols c = 0 then 0 else 1
theorem bound (h6 : ∀ q ∈ rds, q < 6) (h3 : ∀ c ∈ cols, c < 3) (hn : n = rds.length) (hc : cols.length = n) (t : Nat → Bool) :
    leastP n rds cols (2 ^ n) ≤ Rm (tm n rds cols t 0 ||| tm n rds cols t 1 ||| tm n rds cols t 2) + (ti n rds cols t 0 + ti n rds cols t 1 + ti n rds cols t 2) := by
  obtain ⟨e, hlt⟩ := chosen_mk (n := n) (l := (List.range n).filter fun k => t (cols.getD k 0)) List.filter_sublist
  refine Nat.le_trans (least_val (2 ^ n) hlt) ?_
  unfold valP
  rw [e]
  have c3 : ∀ k, k < n → cols.getD k 0 < 3 := fun k hk => by
    rw [List.getD_eq_getElem?_getD, List.getElem?_eq_getElem (by omega)]
    exact h3 _ (List.getElem_mem _)
  refine Nat.add_le_add (Nat.le_of_eq ?_) ?_
  · rw [rank_mk (qs_lt h6 fun k hk => by rw [← hn]; exact List.mem_range.mp (List.mem_filter.mp hk).1)]
    congr 1
    have tmb : ∀ c i, (tm n rds cols t c).testBit i = true ↔ t c = true ∧ ∃ k, k < n ∧ cols.getD k 0 = c ∧ rds.getD k 0 = i := fun c i => by
      unfold tm
      by_cases h : t c = true
      · rw [if_pos h, Sc_bit]; exact ⟨fun q => ⟨h, q⟩, fun q => q.2⟩
      · rw [if_neg h, Nat.zero_testBit]
        exact ⟨fun q => (nomatch q), fun q => absurd q.1 h⟩
    refine Nat.eq_of_testBit_eq fun i => ?_
    rw [Bool.eq_iff_iff, Nat.testBit_or, Nat.testBit_or, Bool.or_eq_true, Bool.or_eq_true, tmb, tmb, tmb, mk_bit, decide_eq_true_iff]
    constructor
    · intro h
      obtain ⟨k, hk, ek⟩ := List.mem_map.mp h
      obtain ⟨k1, k2⟩ := List.mem_filter.mp hk
      have k1 := List.mem_range.mp k1
      have := c3 k k1
      rcases (show cols.getD k 0 = 0 ∨ cols.getD k 0 = 1 ∨ cols.getD k 0 = 2 by omega) with q | q | q
      · exact .inl (.inl ⟨by rw [← q]; exact k2, k, k1, q, ek⟩)
      · exact .inl (.inr ⟨by rw [← q]; exact k2, k, k1, q, ek⟩)
      · exact .inr ⟨by rw [← q]; exact k2, k, k1, q, ek⟩
    · have back : ∀ c, (t c = true ∧ ∃ k, k < n ∧ cols.getD k 0 = c ∧ rds.getD k 0 = i) → i ∈ qsOf rds ((List.range n).filter fun k => t (cols.getD k 0)) := by
        rintro c ⟨h1, k, h2, h3, h4⟩
        exact List.mem_map.mpr ⟨k, List.mem_filter.mpr ⟨List.mem_range.mpr h2, by rw [h3]; exact h1⟩, h4⟩
      rintro ((h | h) | h) <;> exact back _ h
  · rw [ncol3]
    have key : ∀ c, (if (colsOf cols (othersOf n ((List.range n).filter fun k => t (cols.getD k 0)))).contains c = true then 1 else 0) ≤ ti n rds cols t c := fun c => by
      by_cases h : (colsOf cols (othersOf n ((List.range n).filter fun k => t (cols.getD k 0)))).contains c = true
      · rw [if_pos h]
        rw [List.contains_iff_mem] at h
        obtain ⟨k, hk, ek⟩ := List.mem_map.mp h
        obtain ⟨k1, k2⟩ := List.mem_filter.mp hk
        have nt : ¬ t c = true := fun ht => by
          have : k ∈ (List.range n).filter fun k => t (cols.getD k 0) := List.mem_filter.mpr ⟨k1, by
            show t (cols.getD k 0) = true
            rw [ek]; exact ht⟩
          rw [Bool.not_eq_true', ← Bool.not_eq_true, List.contains_iff_mem] at k2
          exact k2 this
        unfold ti
        rw [if_neg nt, if_neg (Sc_ne.mpr ⟨k, List.mem_range.mp k1, ek⟩)]
        exact Nat.le_refl _
      · rw [if_neg h]; exact Nat.zero_le _
    have := key 0
    have := key 1
    have := key 2
    omega
end

def i0 (s : Nat) : Nat := if s = 0 then 0 else 1
theorem i0_z {s : Nat} (h : s = 0) : i0 s = 0 := if_pos h
theorem i0_o {s : Nat} (h : s ≠ 0) : i0 s = 1 := if_neg h
theorem i0_le (s : Nat) : i0 s ≤ 1 := by unfold i0; split <;> decide
/-- what stands in the masks -/
theorem pick {s0 s1 s2 v : Nat} (h0 : s0 < 64) (h1 : s1 < 64) (h2 : s2 < 64) (bn : v ≤ i0 s0 + i0 s1 + i0 s2) (ba : v ≤ Rm (s0 ||| s1 ||| s2)) (b01 : v ≤ Rm (s0 ||| s1) + i0 s2) (b02 : v ≤ Rm (s0 ||| s2) + i0 s1) (b12 : v ≤ Rm (s1 ||| s2) + i0 s0) :
    v = 0 ∨ (v ≤ 1 ∧ (s0 ≠ 0 ∨ s1 ≠ 0 ∨ s2 ≠ 0)) ∨ (v ≤ 2 ∧ (two s0 s1 = true ∨ two s0 s2 = true ∨ two s1 s2 = true)) ∨
    (v ≤ 3 ∧ ∃ e f g, e < 6 ∧ f < 6 ∧ g < 6 ∧ s0.testBit e = true ∧ s1.testBit f = true ∧ s2.testBit g = true ∧ rank [e, f, g] = 3) := by
  have l0 := i0_le s0
  have l1 := i0_le s1
  have l2 := i0_le s2
  have v3 : v ≤ 3 := Nat.le_trans ba (Rm_le3 (or_lt (or_lt h0 h1) h2))
  rcases (show v = 0 ∨ v = 1 ∨ v = 2 ∨ v = 3 by omega) with hv | hv | hv | hv
  · exact .inl hv
  · refine .inr (.inl ⟨by omega, ?_⟩)
    by_cases a : s0 = 0
    · by_cases b : s1 = 0
      · by_cases c : s2 = 0
        · rw [i0_z a, i0_z b, i0_z c] at bn; omega
        · exact .inr (.inr c)
      · exact .inr (.inl b)
    · exact .inl a
  · refine .inr (.inr (.inl ⟨by omega, ?_⟩))
    rw [hv] at ba
    by_cases a : s0 = 0
    · by_cases b : s1 = 0
      · rw [i0_z a, i0_z b] at bn; omega
      · by_cases c : s2 = 0
        · rw [i0_z a, i0_z c] at bn; omega
        · rw [a, Nat.zero_or] at ba
          exact .inr (.inr (pairUp h1 h2 b c ba))
    · by_cases b : s1 = 0
      · by_cases c : s2 = 0
        · rw [i0_z b, i0_z c] at bn; omega
        · rw [b, Nat.or_zero] at ba
          exact .inr (.inl (pairUp h0 h2 a c ba))
      · by_cases c : s2 = 0
        · rw [c, Nat.or_zero] at ba
          exact .inl (pairUp h0 h1 a b ba)
        · cases e1 : two s0 s1 with
          | true => exact .inl rfl
          | false =>
            cases e2 : two s0 s2 with
            | true => exact .inr (.inl rfl)
            | false =>
              have q1 := same_of h0 h1 a b e1
              have q2 := same_of h0 h2 a c e2
              subst q1; subst q2
              rw [Nat.or_self] at ba
              have := pairUp h0 h0 a a ba
              rw [this] at e1; cases e1
  · refine .inr (.inr (.inr ⟨by omega, ?_⟩))
    have a : s0 ≠ 0 := fun a => by rw [i0_z a] at bn; omega
    have b : s1 ≠ 0 := fun a => by rw [i0_z a] at bn; omega
    have c : s2 ≠ 0 := fun a => by rw [i0_z a] at bn; omega
    rw [i0_o c] at b01
    rw [i0_o b] at b02
    rw [i0_o a] at b12
    exact three h0 h1 h2 a b c (by omega) (by omega) (by omega) (by omega)

theorem ex_one {n : Nat} {rds cols : List Nat} {v c : Nat} (h6 : ∀ q ∈ rds, q < 6) (hn : n = rds.length) (hv : v ≤ 1) (h : Sc n rds cols c ≠ 0) : ∃ σ, Sat n cols (ringsP n rds (2 ^ n)) v σ := by
  obtain ⟨k, hk, _⟩ := Sc_ne.mp h
  have q6 := qs_lt (l := [k]) h6 fun j hj => by rw [← hn, List.mem_singleton.mp hj]; exact hk
  refine ex_of (ks := [k]) h6 hn (List.nodup_cons.mpr ⟨List.not_mem_nil, List.nodup_nil⟩) (fun j hj => by rw [List.mem_singleton.mp hj]; exact hk) (fun a ha b hb _ => by rw [List.mem_singleton.mp ha, List.mem_singleton.mp hb]) (by show 1 ≤ 3; decide) ?_ hv
  have := all_range e1c (q6 (rds.getD k 0) (List.mem_map.mpr ⟨k, List.mem_singleton.mpr rfl, rfl⟩))
  exact eq_of_beq this
theorem ex_two {n : Nat} {rds cols : List Nat} {v c d : Nat} (h6 : ∀ q ∈ rds, q < 6) (hn : n = rds.length) (hv : v ≤ 2) (cd : c ≠ d) (h : two (Sc n rds cols c) (Sc n rds cols d) = true) : ∃ σ, Sat n cols (ringsP n rds (2 ^ n)) v σ := by
  obtain ⟨e, f, he, hf, b1, b2, hr⟩ := two_of h
  obtain ⟨k, k1, k2, k3⟩ := Sc_bit.mp b1
  obtain ⟨l, l1, l2, l3⟩ := Sc_bit.mp b2
  have ne : k ≠ l := fun q => cd (by rw [← k2, ← l2, q])
  refine ex_of (ks := [k, l]) h6 hn (by simp [ne]) (fun j hj => ?_) (fun a ha b hb q => ?_) (by show 2 ≤ 3; decide) ?_ hv
  · simp only [List.mem_cons, List.not_mem_nil, or_false] at hj
    rcases hj with rfl | rfl <;> assumption
  · simp only [List.mem_cons, List.not_mem_nil, or_false] at ha hb
    rcases ha with rfl | rfl <;> rcases hb with rfl | rfl
    · rfl
    · exact absurd (k2.symm.trans (q.trans l2)) cd
    · exact absurd (k2.symm.trans (q.symm.trans l2)) cd
    · rfl
  · show rank [rds.getD k 0, rds.getD l 0] = 2
    rw [k3, l3]; exact hr
theorem ex_three {n : Nat} {rds cols : List Nat} {v e f g : Nat} (h6 : ∀ q ∈ rds, q < 6) (hn : n = rds.length) (hv : v ≤ 3) (b1 : (Sc n rds cols 0).testBit e = true) (b2 : (Sc n rds cols 1).testBit f = true) (b3 : (Sc n rds cols 2).testBit g = true) (hr : rank [e, f, g] = 3) : ∃ σ, Sat n cols (ringsP n rds (2 ^ n)) v σ := by
  obtain ⟨k, k1, k2, k3⟩ := Sc_bit.mp b1
  obtain ⟨l, l1, l2, l3⟩ := Sc_bit.mp b2
  obtain ⟨m, m1, m2, m3⟩ := Sc_bit.mp b3
  have n1 : k ≠ l := fun q => by rw [q, l2] at k2; cases k2
  have n2 : k ≠ m := fun q => by rw [q, m2] at k2; cases k2
  have n3 : l ≠ m := fun q => by rw [q, m2] at l2; cases l2
  refine ex_of (ks := [k, l, m]) h6 hn (by simp [n1, n2, n3]) (fun j hj => ?_) (fun a ha b hb q => ?_) (by show 3 ≤ 3; decide) ?_ hv
  · simp only [List.mem_cons, List.not_mem_nil, or_false] at hj
    rcases hj with rfl | rfl | rfl <;> assumption
  · simp only [List.mem_cons, List.not_mem_nil, or_false] at ha hb
    rcases ha with rfl | rfl | rfl <;> rcases hb with rfl | rfl | rfl <;> first | rfl | (exfalso; omega)
  · show rank [rds.getD k 0, rds.getD l 0, rds.getD m 0] = 3
    rw [k3, l3, m3]; exact hr

theorem pure_ok (rds cols : List Nat) (h1 : 3 ≤ rds.length) (h2 : rds.length ≤ 6) (h3 : cols.length = rds.length) (h4 : ∀ q ∈ rds, q < 6) (h5 : ∀ c ∈ cols, c < 3) : PureOk rds.length rds cols := by
  refine ⟨?_, fun σ hS => ⟨taken_cnt hS, taken_rank h4 rfl hS (List.Sublist.refl _), len_ncol (fun k hk => ?_) fun c hc => col_once hS hc⟩, fun σ hS => ?_⟩
  · have B := bound (n := rds.length) (rds := rds) (cols := cols) h4 h5 rfl h3
    have q := Sc_lt (n := rds.length) (rds := rds) (cols := cols) h4 rfl
    have R0 : Rm (0 ||| 0 ||| 0) = 0 := by decide +kernel
    have bn : leastP rds.length rds cols (2 ^ rds.length) ≤ i0 (Sc rds.length rds cols 0) + i0 (Sc rds.length rds cols 1) + i0 (Sc rds.length rds cols 2) := by
      have := B fun _ => false
      simp only [tm, ti, Bool.false_eq_true, if_false, R0, Nat.zero_add] at this
      exact this
    have ba : leastP rds.length rds cols (2 ^ rds.length) ≤ Rm (Sc rds.length rds cols 0 ||| Sc rds.length rds cols 1 ||| Sc rds.length rds cols 2) := by
      have := B fun _ => true
      simp only [tm, ti, if_true, Nat.add_zero] at this
      exact this
    have b01 : leastP rds.length rds cols (2 ^ rds.length) ≤ Rm (Sc rds.length rds cols 0 ||| Sc rds.length rds cols 1) + i0 (Sc rds.length rds cols 2) := by
      have := B fun c => c != 2
      simp only [tm, ti, show ((0 : Nat) != 2) = true from rfl, show ((1 : Nat) != 2) = true from rfl, show ((2 : Nat) != 2) = false from rfl, Bool.false_eq_true, if_true, if_false, Nat.or_zero, Nat.zero_add, Nat.add_zero] at this
      exact this
    have b02 : leastP rds.length rds cols (2 ^ rds.length) ≤ Rm (Sc rds.length rds cols 0 ||| Sc rds.length rds cols 2) + i0 (Sc rds.length rds cols 1) := by
      have := B fun c => c != 1
      simp only [tm, ti, show ((0 : Nat) != 1) = true from rfl, show ((1 : Nat) != 1) = false from rfl, show ((2 : Nat) != 1) = true from rfl, Bool.false_eq_true, if_true, if_false, Nat.or_zero, Nat.zero_add, Nat.add_zero] at this
      exact this
    have b12 : leastP rds.length rds cols (2 ^ rds.length) ≤ Rm (Sc rds.length rds cols 1 ||| Sc rds.length rds cols 2) + i0 (Sc rds.length rds cols 0) := by
      have := B fun c => c != 0
      simp only [tm, ti, show ((0 : Nat) != 0) = false from rfl, show ((1 : Nat) != 0) = true from rfl, show ((2 : Nat) != 0) = true from rfl, Bool.false_eq_true, if_true, if_false, Nat.zero_or, Nat.add_zero] at this
      exact this
    rcases pick (q 0) (q 1) (q 2) bn ba b01 b02 b12 with h | ⟨hv, h⟩ | ⟨hv, h⟩ | ⟨hv, e, f, g, _, _, _, x, y, z, hr⟩
    · rw [h]
      exact ex_of (ks := []) h4 rfl List.nodup_nil (fun _ h => nomatch h) (fun _ h => nomatch h) (Nat.zero_le _) (by show rank [] = 0; decide) (Nat.le_refl _)
    · rcases h with h | h | h <;> exact ex_one h4 rfl hv h
    · rcases h with h | h | h
      · exact ex_two h4 rfl hv (by decide) h
      · exact ex_two h4 rfl hv (by decide) h
      · exact ex_two h4 rfl hv (by decide) h
    · exact ex_three h4 rfl hv x y z hr
  · have hk' := List.mem_range.mp (taken_sub.subset hk)
    rw [List.getD_eq_getElem?_getD, List.getElem?_eq_getElem (by omega)]
    exact h5 _ (List.getElem_mem _)
  · have a := taken_cnt hS
    have b := taken_least h4 h5 rfl h3 hS (2 ^ rds.length)
    omega
end Mine
end

section
open PySem PySem.W PySem.Calls PyProof.Rows
namespace Mine
theorem ng_law {w : World} : nsIn (Kf w) mainGlobals "law" = some (some (.ref 424)) := by kernel_rfl
theorem callerOk : Ok callerA 34 := ⟨rfl, by decide +kernel, by decide +kernel⟩
theorem le63 {n : Nat} (h : ¬ ((63 : Nat) : Int) < (n : Int)) : n ≤ 63 := by omega
theorem well_exact {P : Params} {h : Heap} {a : Addr} {xs : List WData} (W : Well P h (.ref a) (.list xs)) : ∀ o, h.get? a = some o → o.dict = none ∧ o.slots = #[] := by
  cases W with
  | list hh _ =>
    intro o ho
    rw [hh] at ho
    cases ho
    exact ⟨rfl, rfl⟩
theorem law_at {w : World} {s₁ : Shared} {mg mb : Str → Option Value} (K : (Kf w).In s₁.heap) (g : s₁.heap.Ns mainGlobals mg) (b : s₁.heap.Ns builtinsNs mb) (bb : ∀ x : Str, x ≠ "__name__" → mb x = bootBuiltins x) (nl : s₁.heap.NoLimit) {fa la : Addr} {vs : List Value} {ns : List Int}
    (hfa : mg "law" = some (.ref fa)) (hL : s₁.heap.IsList la vs.toArray) (hI : IntsAre vs ns) (hnone : ∀ o, s₁.heap.get? la = some o → o.dict = none ∧ o.slots = #[]) (hz : ns.length ≤ 63) :
    codeAny (model Pr w) callerA (.call (.ref fa) ⟨[.ref la], []⟩) (Rv fun v s' => v = .bool true ∧ Grow s₁ s') s₁ := by
  have h := mg_of K g ng_law
  rw [hfa] at h
  injection h with h
  injection h with h
  subst h
  refine law_spec pure_ok callerOk rfl ⟨K, ⟨mg, g⟩, ⟨mb, b, bb⟩, nl⟩ (ns := ns) ?_ hz fun s' G => ⟨rfl, G⟩
  obtain ⟨⟨c1, d1, data, sl⟩, ho, hc, n, hd⟩ := hL
  obtain ⟨e1, e2⟩ := hnone _ ho
  dsimp only at hc hd e1 e2
  subst hc hd e1 e2
  exact ⟨_, ho, vs, hI, n, rfl⟩
end Mine
end

section
open PySem PySem.W PySem.Calls PyProof.Rows
theorem PySem.Challenge.cw_de5027_01_holds : PySem.Challenge.rw_de5027_01.Holds :=
  Mine.hd (by
  intro w s₀ s₁ mg mb G Y fa o pm cd doc dV kV ho hdd hcd hD hmg hg args vals as hpre hlay hrd hwl hlo
  have KX := kIn_of Y
  refine Ground.open G ?_
  intro T B D TE TW
  clear D hdd hcd hD
  have key := @Mine.law_at w s₁ mg mb KX T.g T.b T.builtins T.nolimit fa
  clear KX Y B TE TW
  wrow_args hpre hlay hrd hwl hlo
  rename_i ns _ _ _ _ _ _ _ la vs _ hL _ w1 _ hI _ hz _
  refine enter_call ?_
  refine codeAny_mono (key (la := la) (vs := vs) (ns := ns) hmg hL hI (Mine.well_exact w1) ?_) fun r s' z => ?_
  · exact Mine.le63 hz
  · rcases r with e | (v | _ | _ | _) <;> first | exact z.elim | skip
    obtain ⟨rfl, GG⟩ := z
    have e1 : OldK s₁.heap s'.heap := OldK.of_keep GG.sub.get
    have e2 : AllBare s'.gens := GG.gens.bare (.of_eq hg)
    refine ⟨.inl ⟨_, .bool true, [], rfl, ?_, .bool true, ?_, fun _ => ⟨List.nodup_nil, fun _ ha => nomatch ha⟩⟩, e1, GG.os, e2⟩
    · clear e1 e2 GG
      intro cls
      rfl
    · clear e1 e2 GG
      exact postW_of (by wrow_shape) (by wtm_val) (by w_fin))
end
