import PyProof.Rows.All
import Wide.All
import OpenK.AllK
import Wide.FinOn
import Open.Row
import PySem.Challenge.RW_pm0026_01
set_option Elab.async false
set_option genInjectivity false
set_option genSizeOf false
section
open PySem PySem.Calls PyProof.Rows
set_option Elab.async false
set_option linter.unusedVariables false
namespace Pm

/-- an object stands at this address -/
def Live (h : Heap) (b : Addr) : Prop := ∃ o, h.get? b = some o
def Nowhere (_ : Addr) : Prop := False

mutual
/-- the value reads as the datum, by objects off Z -/
def RV (Z : Addr → Prop) (h : Heap) : PyData → Value → Prop
  | .none, v => v = .none
  | .bool b, v => v = .bool b
  | .int i, v => ∃ t, v = .int i t
  | .str x, v => ∃ t, v = .str x t
  | .list xs, v => ∃ (a : Addr) (vs : Array Value) (n : Nat), v = .ref a ∧ ¬ Z a ∧ h.get? a = some { cls := .type "list", data := .seq vs n } ∧ RVs Z h xs vs.toList
  | .tuple xs, v => ∃ a o vs n, v = .ref a ∧ ¬ Z a ∧ h.get? a = some o ∧ o.cls = .type "tuple" ∧ o.data = .seq vs n ∧ RVs Z h xs vs.toList
  | .dict _, _ => False
def RVs (Z : Addr → Prop) (h : Heap) : List PyData → List Value → Prop
  | [], vs => vs = []
  | x :: xs, vs => ∃ v r, vs = v :: r ∧ RV Z h x v ∧ RVs Z h xs r
end

mutual
theorem RV.move {Z Z' : Addr → Prop} {h h' : Heap} (hk : ∀ b o, ¬ Z b → h.get? b = some o → h'.get? b = some o) (hz : ∀ b, Z' b → Z b ∨ ¬ Live h b) :
    ∀ {d : PyData} {v : Value}, RV Z h d v → RV Z' h' d v
  | .none, _, x => by unfold RV at *; exact x
  | .bool _, _, x => by unfold RV at *; exact x
  | .int _, _, x => by unfold RV at *; exact x
  | .str _, _, x => by unfold RV at *; exact x
  | .list xs, v, x => by
    unfold RV at *
    obtain ⟨a, vs, n, e, hz', ho, hr⟩ := x
    exact ⟨a, vs, n, e, fun q => (hz a q).elim hz' fun l => l ⟨_, ho⟩, hk a _ hz' ho, RVs.move hk hz hr⟩
  | .tuple xs, v, x => by
    unfold RV at *
    obtain ⟨a, o, vs, n, e, hz', ho, hc, hd, hr⟩ := x
    exact ⟨a, o, vs, n, e, fun q => (hz a q).elim hz' fun l => l ⟨o, ho⟩, hk a o hz' ho, hc, hd, RVs.move hk hz hr⟩
  | .dict _, _, x => by unfold RV at x; exact x.elim
theorem RVs.move {Z Z' : Addr → Prop} {h h' : Heap} (hk : ∀ b o, ¬ Z b → h.get? b = some o → h'.get? b = some o) (hz : ∀ b, Z' b → Z b ∨ ¬ Live h b) :
    ∀ {ds : List PyData} {vs : List Value}, RVs Z h ds vs → RVs Z' h' ds vs
  | [], _, x => by unfold RVs at *; exact x
  | d :: ds, vs, x => by
    unfold RVs at *
    obtain ⟨v, r, e, hv, hr⟩ := x
    exact ⟨v, r, e, RV.move hk hz hv, RVs.move hk hz hr⟩
end

theorem RV.thin {Z Z' : Addr → Prop} {h : Heap} {d : PyData} {v : Value} (x : RV Z h d v) (hz : ∀ b, Z' b → Z b) : RV Z' h d v := x.move (fun _ _ _ e => e) fun b q => .inl (hz b q)
theorem RVs.thin {Z Z' : Addr → Prop} {h : Heap} {d : List PyData} {v : List Value} (x : RVs Z h d v) (hz : ∀ b, Z' b → Z b) : RVs Z' h d v := x.move (fun _ _ _ e => e) fun b q => .inl (hz b q)
theorem RV.keeps {Z : Addr → Prop} {h h' : Heap} {d : PyData} {v : Value} (x : RV Z h d v) (hk : ∀ b o, h.get? b = some o → h'.get? b = some o) : RV Z h' d v := x.move (fun b o _ e => hk b o e) fun _ q => .inl q
theorem RVs.keeps {Z : Addr → Prop} {h h' : Heap} {d : List PyData} {v : List Value} (x : RVs Z h d v) (hk : ∀ b o, h.get? b = some o → h'.get? b = some o) : RVs Z h' d v := x.move (fun b o _ e => hk b o e) fun _ q => .inl q

theorem RVs.len {Z : Addr → Prop} {h : Heap} : ∀ {ds : List PyData} {vs : List Value}, RVs Z h ds vs → vs.length = ds.length
  | [], _, x => by unfold RVs at x; subst x; rfl
  | d :: ds, vs, x => by
    unfold RVs at x
    obtain ⟨v, r, rfl, _, hr⟩ := x
    simp [hr.len]
theorem RVs.nil {Z : Addr → Prop} {h : Heap} : RVs Z h [] [] := by unfold RVs; rfl
theorem RVs.cons {Z : Addr → Prop} {h : Heap} {d : PyData} {ds : List PyData} {v : Value} {vs : List Value} (x : RV Z h d v) (y : RVs Z h ds vs) : RVs Z h (d :: ds) (v :: vs) := by
  unfold RVs; exact ⟨v, vs, rfl, x, y⟩
theorem RVs.append {Z : Addr → Prop} {h : Heap} : ∀ {ds es : List PyData} {vs ws : List Value}, RVs Z h ds vs → RVs Z h es ws → RVs Z h (ds ++ es) (vs ++ ws)
  | [], _, _, _, x, y => by unfold RVs at x; subst x; exact y
  | d :: ds, es, vs, ws, x, y => by
    unfold RVs at x
    obtain ⟨v, r, rfl, hv, hr⟩ := x
    exact .cons hv (hr.append y)
theorem RVs.get {Z : Addr → Prop} {h : Heap} : ∀ {ds : List PyData} {vs : List Value} {i : Nat} {d : PyData}, RVs Z h ds vs → ds[i]? = some d → ∃ v, vs[i]? = some v ∧ RV Z h d v
  | [], _, _, _, _, e => by simp at e
  | d :: ds, vs, i, d', x, e => by
    unfold RVs at x
    obtain ⟨v, r, rfl, hv, hr⟩ := x
    cases i with
    | zero => simp at e; subst e; exact ⟨v, rfl, hv⟩
    | succ i => simp at e; simpa using hr.get e
mutual
theorem RV.reads {Z : Addr → Prop} {h : Heap} : ∀ {d : PyData} {v : Value}, RV Z h d v → ∃ as, Reads h v d as
  | .none, _, x => by unfold RV at x; subst x; exact ⟨_, .none⟩
  | .bool b, _, x => by unfold RV at x; subst x; exact ⟨_, .bool b⟩
  | .int i, _, x => by unfold RV at x; obtain ⟨t, rfl⟩ := x; exact ⟨_, .int i t⟩
  | .str s, _, x => by unfold RV at x; obtain ⟨t, rfl⟩ := x; exact ⟨_, .str s t⟩
  | .list xs, v, x => by
    unfold RV at x
    obtain ⟨a, vs, n, rfl, _, ho, hr⟩ := x
    obtain ⟨as, ha⟩ := RVs.reads hr
    exact ⟨_, .list ho rfl rfl ha⟩
  | .tuple xs, v, x => by
    unfold RV at x
    obtain ⟨a, o, vs, n, rfl, _, ho, hc, hd, hr⟩ := x
    obtain ⟨as, ha⟩ := RVs.reads hr
    exact ⟨_, .tuple ho hc hd ha⟩
  | .dict _, _, x => by unfold RV at x; exact x.elim
theorem RVs.reads {Z : Addr → Prop} {h : Heap} : ∀ {ds : List PyData} {vs : List Value}, RVs Z h ds vs → ∃ as, ReadsAll h vs ds as
  | [], _, x => by unfold RVs at x; subst x; exact ⟨_, .nil⟩
  | d :: ds, vs, x => by
    unfold RVs at x
    obtain ⟨v, r, rfl, hv, hr⟩ := x
    obtain ⟨as, ha⟩ := hv.reads
    obtain ⟨bs, hb⟩ := hr.reads
    exact ⟨_, .cons ha hb⟩
end

theorem RV.int_iff {Z : Addr → Prop} {h : Heap} {i : Int} {v : Value} : RV Z h (.int i) v ↔ ∃ t, v = .int i t := by unfold RV; exact Iff.rfl
theorem RV.str_iff {Z : Addr → Prop} {h : Heap} {x : Str} {v : Value} : RV Z h (.str x) v ↔ ∃ t, v = .str x t := by unfold RV; exact Iff.rfl
theorem RV.bool_iff {Z : Addr → Prop} {h : Heap} {b : Bool} {v : Value} : RV Z h (.bool b) v ↔ v = .bool b := by unfold RV; exact Iff.rfl
theorem RV.none_iff {Z : Addr → Prop} {h : Heap} {v : Value} : RV Z h .none v ↔ v = .none := by unfold RV; exact Iff.rfl
theorem RV.list_iff {Z : Addr → Prop} {h : Heap} {xs : List PyData} {v : Value} : RV Z h (.list xs) v ↔ ∃ a vs, v = .ref a ∧ ¬ Z a ∧ h.PlainList a vs ∧ RVs Z h xs vs.toList := by
  unfold RV
  constructor
  · rintro ⟨a, vs, n, e, hz, ho, hr⟩; exact ⟨a, vs, e, hz, ⟨n, ho⟩, hr⟩
  · rintro ⟨a, vs, e, hz, ⟨n, ho⟩, hr⟩; exact ⟨a, vs, n, e, hz, ho, hr⟩
theorem RV.tuple_iff {Z : Addr → Prop} {h : Heap} {xs : List PyData} {v : Value} : RV Z h (.tuple xs) v ↔ ∃ a vs, v = .ref a ∧ ¬ Z a ∧ h.IsTuple a vs ∧ RVs Z h xs vs.toList := by
  unfold RV
  constructor
  · rintro ⟨a, o, vs, n, e, hz, ho, hc, hd, hr⟩; exact ⟨a, vs, e, hz, ⟨o, ho, hc, n, hd⟩, hr⟩
  · rintro ⟨a, vs, e, hz, ⟨o, ho, hc, n, hd⟩, hr⟩; exact ⟨a, o, vs, n, e, hz, ho, hc, hd, hr⟩
theorem RVs.nil_iff {Z : Addr → Prop} {h : Heap} {vs : List Value} : RVs Z h [] vs ↔ vs = [] := by unfold RVs; exact Iff.rfl
theorem RVs.cons_iff {Z : Addr → Prop} {h : Heap} {d : PyData} {ds : List PyData} {vs : List Value} : RVs Z h (d :: ds) vs ↔ ∃ v r, vs = v :: r ∧ RV Z h d v ∧ RVs Z h ds r := by
  constructor
  · intro x; unfold RVs at x; exact x
  · rintro ⟨v, r, rfl, a, b⟩; exact .cons a b

/-- no place of its own on the heap -/
def scal : PyData → Bool
  | .none | .bool _ | .int _ | .str _ => true
  | _ => false
theorem RV.scal {Z Z' : Addr → Prop} {h h' : Heap} : ∀ {d : PyData} {v : Value}, scal d = true → RV Z h d v → RV Z' h' d v
  | .none, _, _, x => by unfold RV at *; exact x
  | .bool _, _, _, x => by unfold RV at *; exact x
  | .int _, _, _, x => by unfold RV at *; exact x
  | .str _, _, _, x => by unfold RV at *; exact x
theorem RVs.scal {Z Z' : Addr → Prop} {h h' : Heap} : ∀ {ds : List PyData} {vs : List Value}, (∀ d ∈ ds, Pm.scal d = true) → RVs Z h ds vs → RVs Z' h' ds vs
  | [], _, _, x => by unfold RVs at *; exact x
  | d :: ds, vs, hs, x => by
    unfold RVs at *
    obtain ⟨v, r, rfl, hv, hr⟩ := x
    exact ⟨v, r, rfl, hv.scal (hs d (by simp)), RVs.scal (fun d' hd => hs d' (by simp [hd])) hr⟩

/-- what a stretch of the run may have done: only places in Z have turned, only generators in G -/
structure ChgG (Z : Addr → Prop) (G : Nat → Prop) (s s' : Shared) : Prop where
  keep : ∀ b o, ¬ Z b → s.heap.get? b = some o → s'.heap.get? b = some o
  gsize : s.gens.size ≤ s'.gens.size
  gens : ∀ i, i < s.gens.size → ¬ G i → s'.gens[i]? = s.gens[i]?
  bare : AllBare s.gens → AllBare s'.gens
  os : s'.os = s.os
abbrev Chg (Z : Addr → Prop) (s s' : Shared) : Prop := ChgG Z (fun _ => False) s s'
abbrev Ext (s s' : Shared) : Prop := Chg Nowhere s s'

theorem ChgG.of_heap {Z : Addr → Prop} {G : Nat → Prop} {s : Shared} {h' : Heap} {tk : Nat} (hk : ∀ b o, ¬ Z b → s.heap.get? b = some o → h'.get? b = some o) : ChgG Z G s { s with heap := h', toks := tk } :=
  ⟨hk, Nat.le_refl _, fun _ _ _ => rfl, id, rfl⟩
theorem Chg.of_heap {Z : Addr → Prop} {s : Shared} {h' : Heap} {tk : Nat} (hk : ∀ b o, ¬ Z b → s.heap.get? b = some o → h'.get? b = some o) : Chg Z s { s with heap := h', toks := tk } := ChgG.of_heap hk
theorem Chg.refl {Z : Addr → Prop} {G : Nat → Prop} (s : Shared) : ChgG Z G s s := ⟨fun _ _ _ e => e, Nat.le_refl _, fun _ _ _ => rfl, id, rfl⟩
theorem ChgG.wide {Z Z' : Addr → Prop} {G G' : Nat → Prop} {s s' : Shared} (x : ChgG Z G s s') (hz : ∀ b, Z b → Live s.heap b → Z' b) (hg : ∀ i, G i → i < s.gens.size → G' i) : ChgG Z' G' s s' :=
  ⟨fun b o hb e => x.keep b o (fun q => hb (hz b q ⟨o, e⟩)) e, x.gsize, fun i hi hn => x.gens i hi fun q => hn (hg i q hi), x.bare, x.os⟩
theorem ChgG.then {Z Z' : Addr → Prop} {G G' : Nat → Prop} {s s' s'' : Shared} (x : ChgG Z G s s') (y : ChgG Z' G' s' s'') (hz : ∀ b, Z' b → Z b ∨ ¬ Live s.heap b) (hg : ∀ i, G' i → G i ∨ s.gens.size ≤ i) : ChgG Z G s s'' := by
  refine ⟨fun b o hb e => y.keep b o (fun q => (hz b q).elim hb fun l => l ⟨o, e⟩) (x.keep b o hb e), Nat.le_trans x.gsize y.gsize, fun i hi hn => ?_, fun h => y.bare (x.bare h), y.os.trans x.os⟩
  rw [y.gens i (Nat.lt_of_lt_of_le hi x.gsize) fun q => (hg i q).elim hn fun l => Nat.lt_irrefl _ (Nat.lt_of_lt_of_le hi l)]
  exact x.gens i hi hn
theorem ChgG.widen {Z Z' : Addr → Prop} {s s' : Shared} (x : Chg Z s s') (hz : ∀ b, Z b → Live s.heap b → Z' b) : Chg Z' s s' := ChgG.wide x hz fun _ q _ => q
theorem ChgG.next {Z Z' : Addr → Prop} {s s' s'' : Shared} (x : Chg Z s s') (y : Chg Z' s' s'') (hz : ∀ b, Z' b → Z b ∨ ¬ Live s.heap b) : Chg Z s s'' := ChgG.then x y hz fun _ q => q.elim
theorem ChgG.trans {Z : Addr → Prop} {s s' s'' : Shared} (x : Chg Z s s') (y : Chg Z s' s'') : Chg Z s s'' := x.next y fun _ q => .inl q
theorem Chg.ext {Z : Addr → Prop} {s s' : Shared} (x : Ext s s') : Chg Z s s' := x.widen fun _ q _ => q.elim
theorem Chg.extThen {Z : Addr → Prop} {s s' s'' : Shared} (x : Ext s s') (y : Chg Z s' s'') : Chg Z s s'' := (Chg.ext x).next y fun _ q => .inl q
theorem ChgG.thenExt {Z : Addr → Prop} {s s' s'' : Shared} (x : Chg Z s s') (y : Ext s' s'') : Chg Z s s'' := x.next y fun _ q => q.elim
theorem ChgG.get {s s' : Shared} (x : Ext s s') {b : Addr} {o : Obj} (e : s.heap.get? b = some o) : s'.heap.get? b = some o := x.keep b o (fun q => q) e
theorem ChgG.live {s s' : Shared} (x : Ext s s') {b : Addr} (e : Live s.heap b) : Live s'.heap b := let ⟨o, h⟩ := e; ⟨o, x.get h⟩
theorem Ext.toks {s : Shared} (t : Nat) : Ext s { s with toks := t } := ⟨fun _ _ _ e => e, Nat.le_refl _, fun _ _ _ => rfl, id, rfl⟩
theorem Ext.heap {s : Shared} {h' : Heap} {tk : Nat} (hk : ∀ b o, s.heap.get? b = some o → h'.get? b = some o) : Ext s { s with heap := h', toks := tk } := .of_heap fun b o _ e => hk b o e
theorem Ext.push {s : Shared} (o : Obj) : Ext s { s with heap := s.heap.push o } := ⟨fun _ _ _ e => Heap.get?_push_of_some _ e, Nat.le_refl _, fun _ _ _ => rfl, id, rfl⟩
theorem RV.ext {Z : Addr → Prop} {s s' : Shared} {d : PyData} {v : Value} (x : RV Z s.heap d v) (y : Ext s s') : RV Z s'.heap d v := x.keeps fun _ _ e => y.get e
theorem RVs.ext {Z : Addr → Prop} {s s' : Shared} {d : List PyData} {v : List Value} (x : RVs Z s.heap d v) (y : Ext s s') : RVs Z s'.heap d v := x.keeps fun _ _ e => y.get e
theorem new_dead {h : Heap} : ¬ Live h h.objs.size := fun ⟨_, e⟩ => Nat.lt_irrefl _ (Heap.lt_size e)

/-- room: frames and C units -/
structure Rm (n : Nat) (A : Around) : Prop where
  handled : A.handled = none
  depth : A.depth + n + 2 < recursionLimit
  units : A.units + 8 * n + 70 < cLine
theorem Rm.le {n m : Nat} {A : Around} (x : Rm n A) (h : m ≤ n) : Rm m A := ⟨x.handled, by have := x.depth; omega, by have := x.units; omega⟩
theorem Rm.in1 {n : Nat} {A : Around} (x : Rm (n + 1) A) : Rm n A.in1 := ⟨x.handled, by have := x.depth; show A.depth + n + 2 < _; omega, by have := x.units; show A.units + 1 + _ + 70 < _; omega⟩
theorem Rm.deeper {n : Nat} {A : Around} {env : Env} (x : Rm (n + 1) A) : Rm n (A.deeper env) :=
  ⟨x.handled, by have := x.depth; show A.depth + 1 + n + 2 < _; omega, by have := x.units; show A.units + 3 + _ + 70 < _; omega⟩

/-- what stands in a name: a datum that nothing turns, or a list of the call's own -/
inductive SV where
  | dat (d : PyData)
  | own (a : Addr) (ds : List PyData)

abbrev Sto := List (Str × SV)
structure Cx where
  env : Env
  base : Heap
  hole : Addr → Prop
def mutC (c : Cx) (σ : Sto) (b : Addr) : Prop :=
  b = c.env.locals ∨ (c.env.func.isSome = true ∧ ∃ x, c.env.cells.lookup x = some b) ∨ ∃ x ds, σ.lookup x = some (.own b ds)
/-- what no datum lies on: the call's own places, and those of loops under way -/
def avC (c : Cx) (σ : Sto) (b : Addr) : Prop := mutC c σ b ∨ c.hole b
def Holds (c : Cx) (m : Str → Option Value) (h : Heap) (x : Str) (v : Value) : Prop :=
  (c.env.kindOf x = some .local ∧ m x = some v) ∨ ((c.env.kindOf x = some .cell ∨ c.env.kindOf x = some .free) ∧ ∃ a, c.env.cells.lookup x = some a ∧ h.IsCell a (some v))
def IsSV (Z : Addr → Prop) (c : Cx) (m : Str → Option Value) (h : Heap) (x : Str) : SV → Prop
  | .dat d => ∃ v, Holds c m h x v ∧ RV Z h d v
  | .own a ds => Holds c m h x (.ref a) ∧ ∃ vs, h.PlainList a vs ∧ RVs Z h ds vs.toList

structure FmZ (Z : Addr → Prop) (c : Cx) (σ : Sto) (s : Shared) : Prop where
  keep : ∀ b o, c.base.get? b = some o → s.heap.get? b = some o
  dead : ∀ b, Z b → ¬ Live c.base b
  zin : ∀ b, avC c σ b → Z b
  hole : ∀ b, c.hole b → Live s.heap b
  ns : ∃ m, s.heap.Ns c.env.locals m ∧ ∀ x sv, σ.lookup x = some sv → IsSV Z c m s.heap x sv
  cells : ∀ x a, c.env.cells.lookup x = some a → ∃ ov, s.heap.IsCell a ov
  cellsApart : ∀ x y a, c.env.cells.lookup x = some a → c.env.cells.lookup y = some a → x = y
  apart : ∀ x y a ds ds', σ.lookup x = some (.own a ds) → σ.lookup y = some (.own a ds') → x = y
abbrev Fm (c : Cx) (σ : Sto) (s : Shared) : Prop := FmZ (avC c σ) c σ s

theorem Holds.keeps {c : Cx} {m : Str → Option Value} {h h' : Heap} {x : Str} {v : Value} (H : Holds c m h x v) (hk : ∀ b o, h.get? b = some o → h'.get? b = some o) : Holds c m h' x v :=
  H.imp id fun ⟨k, a, e, hc⟩ => ⟨k, a, e, hc.keeps hk⟩

theorem FmZ.ext {Z : Addr → Prop} {c : Cx} {σ : Sto} {s s' : Shared} (F : FmZ Z c σ s) (x : Ext s s') : FmZ Z c σ s' where
  keep := fun b o e => x.get (F.keep b o e)
  dead := F.dead
  zin := F.zin
  hole := fun b q => x.live (F.hole b q)
  ns := by
    obtain ⟨m, hn, hs⟩ := F.ns
    refine ⟨m, hn.keeps fun _ _ e => x.get e, fun y sv e => ?_⟩
    have := hs y sv e
    cases sv with
    | dat d => obtain ⟨v, H, hv⟩ := this; exact ⟨v, H.keeps fun _ _ e => x.get e, hv.ext x⟩
    | own a ds =>
      obtain ⟨H, vs, hl, hv⟩ := this
      exact ⟨H.keeps fun _ _ e => x.get e, vs, hl.at fun _ e => x.get e, hv.ext x⟩
  cells := fun y a e => let ⟨ov, h⟩ := F.cells y a e; ⟨ov, h.keeps fun _ _ e => x.get e⟩
  cellsApart := F.cellsApart
  apart := F.apart

theorem FmZ.mutLive {Z : Addr → Prop} {c : Cx} {σ : Sto} {s : Shared} (F : FmZ Z c σ s) {b : Addr} (h : mutC c σ b) : Live s.heap b := by
  rcases h with rfl | ⟨_, x, e⟩ | ⟨x, ds, e⟩
  · obtain ⟨m, ⟨o, _, _, ho, _⟩, _⟩ := F.ns; exact ⟨o, ho⟩
  · obtain ⟨_, o, ho, _⟩ := F.cells x b e; exact ⟨o, ho⟩
  · obtain ⟨m, _, hs⟩ := F.ns
    obtain ⟨_, vs, ⟨n, ho⟩, _⟩ := hs x _ e
    exact ⟨_, ho⟩

theorem FmZ.avLive {Z : Addr → Prop} {c : Cx} {σ : Sto} {s : Shared} (F : FmZ Z c σ s) {b : Addr} (h : avC c σ b) : Live s.heap b := h.elim F.mutLive (F.hole b)

/-- another set of places: smaller, or more by dead ones -/
theorem FmZ.turn {Z Z' : Addr → Prop} {c : Cx} {σ : Sto} {s : Shared} (F : FmZ Z c σ s) (h : ∀ b, Z' b → Z b ∨ (¬ Live s.heap b ∧ ¬ Live c.base b)) (hm : ∀ b, avC c σ b → Z' b) : FmZ Z' c σ s := by
  refine ⟨F.keep, fun b q => (h b q).elim (F.dead b) (·.2), hm, F.hole, ?_, F.cells, F.cellsApart, F.apart⟩
  obtain ⟨m, hn, hs⟩ := F.ns
  have hz : ∀ b, Z' b → Z b ∨ ¬ Live s.heap b := fun b q => (h b q).imp id (·.1)
  refine ⟨m, hn, fun x sv e => ?_⟩
  have := hs x sv e
  cases sv with
  | dat d => obtain ⟨v, H, hv⟩ := this; exact ⟨v, H, hv.move (fun _ _ _ e => e) hz⟩
  | own a ds => obtain ⟨H, vs, hl, hv⟩ := this; exact ⟨H, vs, hl, hv.move (fun _ _ _ e => e) hz⟩

/-- forget names -/
theorem FmZ.forget {Z : Addr → Prop} {c : Cx} {σ σ' : Sto} {s : Shared} (F : FmZ Z c σ s) (h : ∀ x sv, σ'.lookup x = some sv → σ.lookup x = some sv) : FmZ Z c σ' s where
  keep := F.keep
  dead := F.dead
  zin := fun b q => F.zin b (q.imp (Or.imp id (Or.imp id fun ⟨x, ds, e⟩ => ⟨x, ds, h _ _ e⟩)) id)
  hole := F.hole
  ns := let ⟨m, hn, hs⟩ := F.ns; ⟨m, hn, fun x sv e => hs x sv (h _ _ e)⟩
  cells := F.cells
  cellsApart := F.cellsApart
  apart := fun x y a ds ds' e e' => F.apart x y a ds ds' (h _ _ e) (h _ _ e')
theorem Fm.weak {c : Cx} {σ σ' : Sto} {s : Shared} (F : Fm c σ s) (h : ∀ x sv, σ'.lookup x = some sv → σ.lookup x = some sv) : Fm c σ' s :=
  (F.forget h).turn (fun b q => .inl (q.imp (Or.imp id (Or.imp id fun ⟨x, ds, e⟩ => ⟨x, ds, h _ _ e⟩)) id)) fun _ q => q

theorem lookup_cons_self {x : Str} {sv : SV} {σ : Sto} : List.lookup x ((x, sv) :: σ) = some sv := by simp [List.lookup]
theorem lookup_cons_ne {x y : Str} {sv : SV} {σ : Sto} (h : y ≠ x) : List.lookup y ((x, sv) :: σ) = σ.lookup y := by
  have : (y == x) = false := by simpa using h
  simp [List.lookup, this]
theorem lookup_put {x y : Str} {sv sv' : SV} {σ : Sto} (h : List.lookup y ((x, sv) :: σ) = some sv') : (y = x ∧ sv' = sv) ∨ (y ≠ x ∧ σ.lookup y = some sv') := by
  by_cases q : y = x
  · subst q; rw [lookup_cons_self] at h; cases h; exact .inl ⟨rfl, rfl⟩
  · rw [lookup_cons_ne q] at h; exact .inr ⟨q, h⟩
theorem mut_put {c : Cx} {x : Str} {d : PyData} {σ : Sto} {b : Addr} (h : mutC c ((x, .dat d) :: σ) b) : mutC c σ b := by
  refine h.imp id (Or.imp id ?_)
  rintro ⟨y, ds, e⟩
  rcases lookup_put e with ⟨_, q⟩ | ⟨_, q⟩
  · cases q
  · exact ⟨y, ds, q⟩
theorem av_put {c : Cx} {x : Str} {d : PyData} {σ : Sto} {b : Addr} (h : avC c ((x, .dat d) :: σ) b) : avC c σ b := h.imp mut_put id
end Pm

end
section
open PySem PySem.Calls PyProof.Rows
set_option Elab.async false
set_option linter.unusedVariables false
namespace Pm

structure GL (mg mb : Str → Option Value) (fs : List DefRec) (cs : List (Str × PyData)) (h : Heap) : Prop where
  g : h.Ns mainGlobals mg
  b : h.Ns builtinsNs mb
  nolimit : h.NoLimit
  fn : ∀ d ∈ fs, ∃ a o pm code doc, mg d.name = some (.ref a) ∧ h.get? a = some o ∧ o.data = .func (docDef d.name d.params d.body d.scope pm code doc) ∧ h.CodeRec code d.name
  con : ∀ p ∈ cs, ∃ v, mg p.1 = some v ∧ RV Nowhere h p.2 v
  free : ∀ x ∈ ([("enumerate" : Str), "list", "len", "sum", "range"] : List Str), mg x = none
  blt : ∀ x : Str, x ≠ "__name__" → mb x = bootBuiltins x
theorem GL.keeps {mg mb : Str → Option Value} {fs : List DefRec} {cs : List (Str × PyData)} {h h' : Heap} (x : GL mg mb fs cs h) (hk : ∀ b o, h.get? b = some o → h'.get? b = some o) : GL mg mb fs cs h' where
  g := x.g.keeps hk
  b := x.b.keeps hk
  nolimit := let ⟨m, h1, h2⟩ := x.nolimit; ⟨m, h1.keeps hk, h2⟩
  fn := fun d hd => let ⟨a, o, pm, code, doc, h1, h2, h3, h4⟩ := x.fn d hd; ⟨a, o, pm, code, doc, h1, hk _ _ h2, h3, h4.keeps hk⟩
  con := fun p hp => let ⟨v, h1, h2⟩ := x.con p hp; ⟨v, h1, h2.keeps hk⟩
  free := x.free
  blt := x.blt

/-- the walk's fixed matters -/
structure J where
  prog : Program
  w : World
  mg : Str → Option Value
  mb : Str → Option Value
  fs : List DefRec
  cs : List (Str × PyData)
  env : Env
  base : Heap
  hole : Addr → Prop
  n : Nat
  A : Around
abbrev J.cx (j : J) : Cx := ⟨j.env, j.base, j.hole⟩
structure Ok (j : J) : Prop where
  kind : j.env.scope.kind = .function
  glo : j.env.globals = mainGlobals
  blt : j.env.builtins = builtinsNs
  gl : GL j.mg j.mb j.fs j.cs j.base
  rm : Rm j.n j.A

inductive Md where
  | fresh | frozen | trans
def Zof (md : Md) (c : Cx) (σ : Sto) (s : Shared) : Addr → Prop := match md with
  | .fresh => Live s.heap
  | .frozen => avC c σ
  | .trans => Nowhere

/-- the expression yields the datum, whatever has come onto the heap since -/
def PE (j : J) (σ : Sto) (md : Md) (e : PySem.Expr) (d : PyData) : Prop :=
  Ok j → ∀ s, Fm j.cx σ s → ∀ (Q : Value → Shared → Prop) (E : Value → Shared → Prop), (∀ v s', Ext s s' → RV (Zof md j.cx σ s) s'.heap d v → Q v s') → wpAny (model j.prog j.w) j.A (eval e j.env) Q E s
def PEs (j : J) (σ : Sto) (md : Md) (es : List PySem.Expr) (ds : List PyData) : Prop :=
  Ok j → ∀ s, Fm j.cx σ s → ∀ (pos : Pos) (Q : List Value → Shared → Prop) (E : Value → Shared → Prop), (∀ vs s', Ext s s' → RVs (Zof md j.cx σ s) s'.heap ds vs → Q vs s') → wpAny (model j.prog j.w) j.A (spliced (backTo pos (starEach es j.env))) Q E s
/-- the test's truth -/
def PB (j : J) (σ : Sto) (e : PySem.Expr) (b : Bool) : Prop :=
  Ok j → ∀ s, Fm j.cx σ s → ∀ (Q : Bool → Shared → Prop) (E : Value → Shared → Prop), (∀ s', Ext s s' → Q b s') → wpAny (model j.prog j.w) j.A (isTrue e j.env (eval e j.env)) Q E s

inductive RF where
  | next | brk | cont
  | ret (d : PyData)
def FlowIs (c : Cx) (s' : Shared) : RF → Flow → Prop
  | .next, .next => True
  | .brk, .brk => True
  | .cont, .cont => True
  | .ret d, .ret v => RV (Live c.base) s'.heap d v
  | _, _ => False
/-- from one store and state to another -/
structure Stp (c : Cx) (σ σ' : Sto) (s s' : Shared) : Prop where
  fm : Fm c σ' s'
  chg : Chg (mutC c σ) s s'
  new : ∀ b, mutC c σ' b → mutC c σ b ∨ ¬ Live s.heap b
theorem Stp.refl {c : Cx} {σ : Sto} {s : Shared} (F : Fm c σ s) : Stp c σ σ s s := ⟨F, Chg.refl _, fun _ q => .inl q⟩
theorem Stp.ext {c : Cx} {σ : Sto} {s s' : Shared} (F : Fm c σ s) (x : Ext s s') : Stp c σ σ s s' := ⟨F.ext x, Chg.ext x, fun _ q => .inl q⟩
theorem Stp.trans {c : Cx} {σ σ' σ'' : Sto} {s s' s'' : Shared} (x : Stp c σ σ' s s') (y : Stp c σ' σ'' s' s'') : Stp c σ σ'' s s'' := by
  refine ⟨y.fm, x.chg.next y.chg x.new, fun b q => ?_⟩
  rcases y.new b q with q | q
  · exact x.new b q
  · by_cases hz : mutC c σ b
    · exact .inl hz
    · exact .inr fun ⟨o, e⟩ => q ⟨o, x.chg.keep b o hz e⟩
/-- the statements, from a store to a flow and a store -/
def SE (j : J) (σ : Sto) (ss : List Stmt) (P : RF → Sto → Prop) : Prop :=
  Ok j → ∀ s, Fm j.cx σ s → ∀ (Q : Flow → Shared → Prop) (E : Value → Shared → Prop),
    (∀ rf f σ' s', P rf σ' → FlowIs j.cx s' rf f → Stp j.cx σ σ' s s' → Q f s') → wpAny (model j.prog j.w) j.A (execs ss j.env) Q E s
/-- one statement -/
def S1 (j : J) (σ : Sto) (st : Stmt) (P : RF → Sto → Prop) : Prop :=
  Ok j → ∀ s, Fm j.cx σ s → ∀ (Q : Flow → Shared → Prop) (E : Value → Shared → Prop),
    (∀ rf f σ' s', P rf σ' → FlowIs j.cx s' rf f → Stp j.cx σ σ' s s' → Q f s') → wpAny (model j.prog j.w) j.A (exec st j.env) Q E s

section
variable {j : J} {σ : Sto} {md : Md} {e e₁ e₂ : PySem.Expr} {d : PyData} {pos : Pos}

theorem Zof.thin {c : Cx} {σ : Sto} {s : Shared} (F : Fm c σ s) {h : Heap} {d : PyData} {v : Value} (x : RV (Live s.heap) h d v) (md : Md) : RV (Zof md c σ s) h d v := by
  cases md with
  | fresh => exact x
  | frozen => exact x.thin fun b q => F.avLive q
  | trans => exact x.thin fun b q => q.elim
theorem Zof.ext {c : Cx} {σ : Sto} {s s' : Shared} (x : Ext s s') : ∀ (md : Md) (b : Addr), Zof md c σ s b → Zof md c σ s' b
  | .fresh, _, q => x.live q
  | .frozen, _, q => q
  | .trans, _, q => q

theorem PE.up (h : PE j σ .fresh e d) (md : Md) : PE j σ md e d := fun ok s F Q E hQ => h ok s F Q E fun v s' x hv => hQ v s' x (Zof.thin F hv md)
theorem PE.scal (hs : scal d = true) (h : PE j σ md e d) (md' : Md) : PE j σ md' e d := fun ok s F Q E hQ => h ok s F Q E fun v s' x hv => hQ v s' x (hv.scal hs)
theorem PE.eq {d' : PyData} (h : PE j σ md e d) (e' : d = d') : PE j σ md e d' := e' ▸ h
theorem PB.eq {b b' : Bool} (h : PB j σ e b) (e' : b = b') : PB j σ e b' := e' ▸ h

/-- from an extended state the same may be said as from the state itself -/
theorem PE.at (h : PE j σ md e d) (ok : Ok j) {s s₁ : Shared} (F : Fm j.cx σ s) (x : Ext s s₁) {Q : Value → Shared → Prop} {E : Value → Shared → Prop}
    (hQ : ∀ v s', Ext s₁ s' → RV (Zof md j.cx σ s) s'.heap d v → Q v s') : wpAny (model j.prog j.w) j.A (eval e j.env) Q E s₁ :=
  h ok s₁ (F.ext x) Q E fun v s' y hv => hQ v s' y (hv.thin fun b q => Zof.ext x md b q)

theorem pe_int {i : Int} {k : Nat} : PE j σ .fresh (.Constant (.int i) k pos) (.int i) := fun _ s _ Q E hQ =>
  wpAny_Constant_int (hQ _ _ (Ext.toks _) (RV.int_iff.mpr ⟨_, rfl⟩))
theorem pe_str {x : Str} {k : Nat} : PE j σ .fresh (.Constant (.str x) k pos) (.str x) := fun _ s _ Q E hQ =>
  wpAny_Constant_str (hQ _ _ (Ext.toks _) (RV.str_iff.mpr ⟨_, rfl⟩))
theorem pe_bool {b : Bool} {k : Nat} : PE j σ .fresh (.Constant (.bool b) k pos) (.bool b) := fun _ s _ Q E hQ =>
  wpAny_Constant_bool (hQ _ _ (Chg.refl _) (RV.bool_iff.mpr rfl))
theorem pe_none {k : Nat} : PE j σ .fresh (.Constant .none k pos) .none := fun _ s _ Q E hQ =>
  wpAny_Constant_none (hQ _ _ (Chg.refl _) (RV.none_iff.mpr rfl))

theorem load_dat {x : Str} (ok : Ok j) {s : Shared} (F : Fm j.cx σ s) (hx : σ.lookup x = some (.dat d)) (hc : (x == ("__classdict__" : Str)) = false) {Q : Value → Shared → Prop} {E : Value → Shared → Prop}
    (hQ : ∀ v, RV (avC j.cx σ) s.heap d v → Q v s) : wpAny (model j.prog j.w) j.A (loadName j.env x) Q E s := by
  obtain ⟨m, hn, hs⟩ := F.ns
  obtain ⟨v, H, hv⟩ := hs x _ hx
  rcases H with ⟨hk, hm⟩ | ⟨hk | hk, a, ha, hcell⟩
  · exact wpAny_loadName_local ok.kind hk hn hm (hQ v hv)
  · exact wpAny_loadName_cell ok.kind hk ha hcell (hQ v hv)
  · exact wpAny_loadName_free ok.kind hk ha hcell (hQ v hv) hc
theorem load_own {x : Str} {a : Addr} {ds : List PyData} (ok : Ok j) {s : Shared} (F : Fm j.cx σ s) (hx : σ.lookup x = some (.own a ds)) (hc : (x == ("__classdict__" : Str)) = false) {Q : Value → Shared → Prop} {E : Value → Shared → Prop}
    (hQ : ∀ vs, s.heap.PlainList a vs → RVs (avC j.cx σ) s.heap ds vs.toList → Q (.ref a) s) : wpAny (model j.prog j.w) j.A (loadName j.env x) Q E s := by
  obtain ⟨m, hn, hs⟩ := F.ns
  obtain ⟨H, vs, hl, hv⟩ := hs x _ hx
  rcases H with ⟨hk, hm⟩ | ⟨hk | hk, c, ha, hcell⟩
  · exact wpAny_loadName_local ok.kind hk hn hm (hQ vs hl hv)
  · exact wpAny_loadName_cell ok.kind hk ha hcell (hQ vs hl hv)
  · exact wpAny_loadName_free ok.kind hk ha hcell (hQ vs hl hv) hc

theorem pe_name {x : Str} (hx : σ.lookup x = some (.dat d)) (hd : (x == ("__debug__" : Str)) = false := by decide) (hc : (x == ("__classdict__" : Str)) = false := by decide) : PE j σ .frozen (.Name x pos) d :=
  fun ok s F Q E hQ => wpAny_Name (load_dat ok F hx hc fun v hv => hQ v s (Chg.refl _) hv) hd
theorem pe_own {x : Str} {a : Addr} {ds : List PyData} (hx : σ.lookup x = some (.own a ds)) (hd : (x == ("__debug__" : Str)) = false := by decide) (hc : (x == ("__classdict__" : Str)) = false := by decide) : PE j σ .trans (.Name x pos) (.list ds) :=
  fun ok s F Q E hQ => wpAny_Name (load_own ok F hx hc fun vs hl hv => hQ _ s (Chg.refl _) (RV.list_iff.mpr ⟨a, vs, rfl, fun q => q.elim, hl, hv.thin fun _ q => q.elim⟩)) hd
theorem pe_glob {x : Str} (hx : (x, d) ∈ j.cs) (hk : j.env.kindOf x = some .globalImplicit) (hd : (x == ("__debug__" : Str)) = false := by decide) : PE j σ .frozen (.Name x pos) d :=
  fun ok s F Q E hQ => by
    obtain ⟨v, hm, hv⟩ := ok.gl.con _ hx
    refine Name_function_global ok.kind hk (loadGlobal_global (mg := j.mg) (by rw [ok.glo]; exact ok.gl.g.keeps F.keep) hm (hQ v s (Chg.refl _) ?_)) hd
    exact hv.move (fun b o _ e => F.keep b o e) fun b q => .inr (F.dead b q)

/-- two operands that yield plain data, then one step -/
theorem pe_bin {op : Operator} {d₁ d₂ : PyData} {md₁ md₂ : Md} (h₁ : PE j σ md₁ e₁ d₁) (h₂ : PE j σ md₂ e₂ d₂)
    (hop : ∀ (A : Around), Rm j.n A → ∀ (s : Shared) (v₁ v₂ : Value) (Q : Value → Shared → Prop) (E : Value → Shared → Prop), RV Nowhere s.heap d₁ v₁ → RV Nowhere s.heap d₂ v₂ →
      (∀ v s', Ext s s' → RV (Live s.heap) s'.heap d v → Q v s') → wpAny (model j.prog j.w) A (binaryOp op v₁ v₂) Q E s) : PE j σ .fresh (.BinOp e₁ op e₂ pos) d :=
  fun ok s F Q E hQ => wpAny_BinOp (h₁.at ok F (Chg.refl s) fun v₁ s₁ x₁ hv₁ => h₂.at ok F x₁ fun v₂ s₂ x₂ hv₂ =>
    hop j.A ok.rm s₂ v₁ v₂ _ _ ((hv₁.thin fun _ q => q.elim).ext x₂) (hv₂.thin fun _ q => q.elim) fun v s' x hv =>
      hQ v s' (x₁.thenExt (x₂.thenExt x)) (hv.thin fun b q => x₂.live (x₁.live q)))

section secInts
variable {a b : Int} {md₁ md₂ : Md} (h₁ : PE j σ md₁ e₁ (.int a)) (h₂ : PE j σ md₂ e₂ (.int b))
include h₁ h₂
theorem pe_add : PE j σ .fresh (.BinOp e₁ .Add e₂ pos) (.int (a + b)) := pe_bin h₁ h₂ fun A _ s v₁ v₂ Q E r₁ r₂ hQ => by
  obtain ⟨t, rfl⟩ := RV.int_iff.mp r₁; obtain ⟨u, rfl⟩ := RV.int_iff.mp r₂
  exact add_int (hQ _ _ (Ext.toks _) (RV.int_iff.mpr ⟨_, rfl⟩))
theorem pe_sub : PE j σ .fresh (.BinOp e₁ .Sub e₂ pos) (.int (a - b)) := pe_bin h₁ h₂ fun A _ s v₁ v₂ Q E r₁ r₂ hQ => by
  obtain ⟨t, rfl⟩ := RV.int_iff.mp r₁; obtain ⟨u, rfl⟩ := RV.int_iff.mp r₂
  exact sub_int (hQ _ _ (Ext.toks _) (RV.int_iff.mpr ⟨_, rfl⟩))
theorem pe_mul (hm : IntMulOk a b) : PE j σ .fresh (.BinOp e₁ .Mult e₂ pos) (.int (a * b)) := pe_bin h₁ h₂ fun A _ s v₁ v₂ Q E r₁ r₂ hQ => by
  obtain ⟨t, rfl⟩ := RV.int_iff.mp r₁; obtain ⟨u, rfl⟩ := RV.int_iff.mp r₂
  exact mul_int (hQ _ _ (Ext.toks _) (RV.int_iff.mpr ⟨_, rfl⟩)) hm
theorem pe_fdiv (hb : b ≠ 0) (hp : Builtin.divisionGoesByPylong a b = false) : PE j σ .fresh (.BinOp e₁ .FloorDiv e₂ pos) (.int (a.fdiv b)) := pe_bin h₁ h₂ fun A _ s v₁ v₂ Q E r₁ r₂ hQ => by
  obtain ⟨t, rfl⟩ := RV.int_iff.mp r₁; obtain ⟨u, rfl⟩ := RV.int_iff.mp r₂
  exact floordiv_int hb (hQ _ _ (Ext.toks _) (RV.int_iff.mpr ⟨_, rfl⟩)) (.inl hp)
theorem pe_fmod (hb : b ≠ 0) : PE j σ .fresh (.BinOp e₁ .Mod e₂ pos) (.int (a.fmod b)) := pe_bin h₁ h₂ fun A _ s v₁ v₂ Q E r₁ r₂ hQ => by
  obtain ⟨t, rfl⟩ := RV.int_iff.mp r₁; obtain ⟨u, rfl⟩ := RV.int_iff.mp r₂
  exact mod_int' hb (hQ _ _ (Ext.toks _) (RV.int_iff.mpr ⟨_, rfl⟩))
theorem pe_pow (hn : 0 ≤ b) (hn2 : b ≤ 1000000) (ha : a.natAbs < 2 ^ 64) : PE j σ .fresh (.BinOp e₁ .Pow e₂ pos) (.int (a ^ b.toNat)) := pe_bin h₁ h₂ fun A _ s v₁ v₂ Q E r₁ r₂ hQ => by
  obtain ⟨t, rfl⟩ := RV.int_iff.mp r₁; obtain ⟨u, rfl⟩ := RV.int_iff.mp r₂
  exact pow_int_small hn hn2 ha (hQ _ _ (Ext.toks _) (RV.int_iff.mpr ⟨_, rfl⟩))
theorem pe_shl (hn : 0 ≤ b) (hn2 : b ≤ 1000000) (ha : a.natAbs < 2 ^ 64) : PE j σ .fresh (.BinOp e₁ .LShift e₂ pos) (.int (a * 2 ^ b.toNat)) := pe_bin h₁ h₂ fun A _ s v₁ v₂ Q E r₁ r₂ hQ => by
  obtain ⟨t, rfl⟩ := RV.int_iff.mp r₁; obtain ⟨u, rfl⟩ := RV.int_iff.mp r₂
  exact lshift_int_small hn hn2 ha (hQ _ _ (Ext.toks _) (RV.int_iff.mpr ⟨_, rfl⟩))
theorem pe_and : PE j σ .fresh (.BinOp e₁ .BitAnd e₂ pos) (.int (Builtin.bitAnd a b)) := pe_bin h₁ h₂ fun A _ s v₁ v₂ Q E r₁ r₂ hQ => by
  obtain ⟨t, rfl⟩ := RV.int_iff.mp r₁; obtain ⟨u, rfl⟩ := RV.int_iff.mp r₂
  exact and_int (hQ _ _ (Ext.toks _) (RV.int_iff.mpr ⟨_, rfl⟩))
theorem pe_or : PE j σ .fresh (.BinOp e₁ .BitOr e₂ pos) (.int (Builtin.bitOr a b)) := pe_bin h₁ h₂ fun A _ s v₁ v₂ Q E r₁ r₂ hQ => by
  obtain ⟨t, rfl⟩ := RV.int_iff.mp r₁; obtain ⟨u, rfl⟩ := RV.int_iff.mp r₂
  exact or_int (hQ _ _ (Ext.toks _) (RV.int_iff.mpr ⟨_, rfl⟩))
theorem pe_xor : PE j σ .fresh (.BinOp e₁ .BitXor e₂ pos) (.int (Builtin.bitXor a b)) := pe_bin h₁ h₂ fun A _ s v₁ v₂ Q E r₁ r₂ hQ => by
  obtain ⟨t, rfl⟩ := RV.int_iff.mp r₁; obtain ⟨u, rfl⟩ := RV.int_iff.mp r₂
  exact xor_int (hQ _ _ (Ext.toks _) (RV.int_iff.mpr ⟨_, rfl⟩))
end secInts

theorem pe_cat {x y : Str} {md₁ md₂ : Md} (h₁ : PE j σ md₁ e₁ (.str x)) (h₂ : PE j σ md₂ e₂ (.str y)) (hz : x.length + y.length ≤ sizeLine) : PE j σ .fresh (.BinOp e₁ .Add e₂ pos) (.str (x ++ y)) :=
  pe_bin h₁ h₂ fun A _ s v₁ v₂ Q E r₁ r₂ hQ => by
    obtain ⟨t, rfl⟩ := RV.str_iff.mp r₁; obtain ⟨u, rfl⟩ := RV.str_iff.mp r₂
    exact PyProof.Rows.add_str (fun t' tk => hQ _ _ (Ext.toks _) (RV.str_iff.mpr ⟨_, rfl⟩)) hz

theorem pes_nil : PEs j σ md [] [] := fun _ s _ pos Q E hQ => wpAny_items_nil (hQ [] s (Chg.refl _) .nil)
theorem pes_cons {es : List PySem.Expr} {ds : List PyData} (h : PE j σ md e d) (hs : PEs j σ md es ds) (he : starEach (e :: es) j.env = (false, eval e j.env) :: starEach es j.env := by rfl) : PEs j σ md (e :: es) (d :: ds) :=
  fun ok s F pos Q E hQ => wpAny_items_cons (h.at ok F (Chg.refl s) fun v s₁ x₁ hv => hs ok s₁ (F.ext x₁) pos _ _ fun vs s₂ x₂ hvs =>
    hQ (v :: vs) s₂ (x₁.thenExt x₂) (.cons (hv.ext x₂) (hvs.thin fun b q => Zof.ext x₁ md b q))) he
theorem Zof.new {c : Cx} {σ : Sto} {s s₁ : Shared} (F : Fm c σ s) (x : Ext s s₁) : ∀ md, ¬ Zof md c σ s s₁.heap.objs.size
  | .fresh, q => new_dead (x.live q)
  | .frozen, q => new_dead (x.live (F.avLive q))
  | .trans, q => q
theorem pe_tuple {es : List PySem.Expr} {ds : List PyData} {k : Nat} (h : PEs j σ md es ds) (hz : ds.length ≤ sizeLine := by decide) : PE j σ md (.Tuple es k pos) (.tuple ds) :=
  fun ok s F Q E hQ => wpAny_Tuple (h ok s F pos _ _ fun vs s₁ x hv => ⟨by rw [hv.len]; exact hz, hQ _ _ (x.thenExt (Ext.push _)) (RV.tuple_iff.mpr
    ⟨_, vs.toArray, rfl, Zof.new F x md, ⟨_, Heap.get?_push_size _ rfl, rfl, _, rfl⟩, hv.keeps fun _ _ e => Heap.get?_push_of_some _ e⟩)⟩)
theorem pe_list {es : List PySem.Expr} {ds : List PyData} (h : PEs j σ md es ds) (hz : ds.length ≤ sizeLine := by decide) : PE j σ md (.List es pos) (.list ds) :=
  fun ok s F Q E hQ => wpAny_List (h ok s F pos _ _ fun vs s₁ x hv => ⟨by rw [hv.len]; exact hz, hQ _ _ (x.thenExt (Ext.push _)) (RV.list_iff.mpr
    ⟨_, vs.toArray, rfl, Zof.new F x md, ⟨_, Heap.get?_push_size _ rfl⟩, hv.keeps fun _ _ e => Heap.get?_push_of_some _ e⟩)⟩)
/-- comparisons -/
theorem pe_cmp {op : CmpOp} {d₁ d₂ : PyData} {b : Bool} {md₁ md₂ : Md} (h₁ : PE j σ md₁ e₁ d₁) (h₂ : PE j σ md₂ e₂ d₂)
    (hop : ∀ (A : Around), Rm j.n A → ∀ (s : Shared) (v₁ v₂ : Value) (Q : Value → Shared → Prop) (E : Value → Shared → Prop), RV Nowhere s.heap d₁ v₁ → RV Nowhere s.heap d₂ v₂ →
      (∀ s', Ext s s' → Q (.bool b) s') → wpAny (model j.prog j.w) A (compareOp op v₁ v₂) Q E s) (hm : behindInMarks op e₂ = false := by with_unfolding_all rfl) : PE j σ .fresh (.Compare e₁ [op] [e₂] pos) (.bool b) :=
  fun ok s F Q E hQ => wpAny_Compare1 (h₁.at ok F (Chg.refl s) fun v₁ s₁ x₁ hv₁ => h₂.at ok F x₁ fun v₂ s₂ x₂ hv₂ =>
    hop j.A ok.rm s₂ v₁ v₂ _ _ ((hv₁.thin fun _ q => q.elim).ext x₂) (hv₂.thin fun _ q => q.elim) fun s' x => hQ _ s' (x₁.thenExt (x₂.thenExt x)) (RV.bool_iff.mpr rfl)) hm
theorem pb_cmp {op : CmpOp} {d₁ d₂ : PyData} {b : Bool} {md₁ md₂ : Md} (h₁ : PE j σ md₁ e₁ d₁) (h₂ : PE j σ md₂ e₂ d₂)
    (hop : ∀ (A : Around), Rm j.n A → ∀ (s : Shared) (v₁ v₂ : Value) (Q : Value → Shared → Prop) (E : Value → Shared → Prop), RV Nowhere s.heap d₁ v₁ → RV Nowhere s.heap d₂ v₂ →
      (∀ s', Ext s s' → Q (.bool b) s') → wpAny (model j.prog j.w) A (compareOp op v₁ v₂) Q E s) (hm : behindInMarks op e₂ = false := by with_unfolding_all rfl) : PB j σ (.Compare e₁ [op] [e₂] pos) b :=
  fun ok s F Q E hQ => wpAny_isTrue_Compare1 (h₁.at ok F (Chg.refl s) fun v₁ s₁ x₁ hv₁ => h₂.at ok F x₁ fun v₂ s₂ x₂ hv₂ =>
    hop j.A ok.rm s₂ v₁ v₂ _ _ ((hv₁.thin fun _ q => q.elim).ext x₂) (hv₂.thin fun _ q => q.elim) fun s' x => wpAny_truthy_bool (hQ s' (x₁.thenExt (x₂.thenExt x)))) hm
end
end Pm

end
section
open PySem PySem.Calls PyProof.Rows
set_option Elab.async false
set_option linter.unusedVariables false
namespace Pm

theorem ns_ne_cell {h : Heap} {L a : Addr} {m : Str → Option Value} {ov : Option Value} (x : h.Ns L m) (y : h.IsCell a ov) : a ≠ L := by
  rintro rfl
  obtain ⟨o, es, ep, ho, hd, _⟩ := x
  obtain ⟨o', ho', hd'⟩ := y
  rw [ho] at ho'; cases ho'
  rw [hd] at hd'; cases hd'
theorem ns_ne_list {h : Heap} {L a : Addr} {m : Str → Option Value} {vs : Array Value} (x : h.Ns L m) (y : h.IsList a vs) : a ≠ L := by
  rintro rfl
  obtain ⟨o, es, ep, ho, hd, _⟩ := x
  obtain ⟨o', ho', _, n, hd'⟩ := y
  rw [ho] at ho'; cases ho'
  rw [hd] at hd'; cases hd'
theorem cell_ne_list {h : Heap} {c a : Addr} {ov : Option Value} {vs : Array Value} (x : h.IsCell c ov) (y : h.IsList a vs) : a ≠ c := by
  rintro rfl
  obtain ⟨o, ho, hd⟩ := x
  obtain ⟨o', ho', _, n, hd'⟩ := y
  rw [ho] at ho'; cases ho'
  rw [hd] at hd'; cases hd'
theorem IsCell.at {h h' : Heap} {c : Addr} {v : Option Value} (x : h.IsCell c v) (hk : ∀ o, h.get? c = some o → h'.get? c = some o) : h'.IsCell c v := let ⟨o, ho, hd⟩ := x; ⟨o, hk o ho, hd⟩

/-- where a name may be stored -/
def Storable (env : Env) (x : Str) : Prop := env.kindOf x = some .local ∨ (env.kindOf x = some .cell ∧ env.func.isSome = true ∧ ∃ a, env.cells.lookup x = some a)

def SVIs (Z : Addr → Prop) (h : Heap) (v : Value) : SV → Prop
  | .dat d => RV Z h d v
  | .own a ds => v = .ref a ∧ Z a ∧ ∃ vs, h.PlainList a vs ∧ RVs Z h ds vs.toList

section
variable {j : J} {σ : Sto} {d : PyData} {x : Str} {v : Value} {Z : Addr → Prop}

theorem Ok.storeOk (ok : Ok j) : (j.env.scope.kind == .class || (j.env.scope.kind == .module && j.env.locals != j.env.globals)) = false := by rw [ok.kind]; rfl

theorem Holds.cellAt {c : Cx} {m m' : Str → Option Value} {h h' : Heap} {y : Str} {u : Value} (H : Holds c m h y u) (hm : c.env.kindOf y = some .local → m' y = m y)
    (hk : ∀ a, c.env.cells.lookup y = some a → ∀ ov, h.IsCell a ov → h'.IsCell a ov) : Holds c m' h' y u :=
  H.imp (fun ⟨k, e⟩ => ⟨k, (hm k).trans e⟩) fun ⟨k, a, e, hc⟩ => ⟨k, a, e, hk a e _ hc⟩

theorem storeZ (ok : Ok j) {s : Shared} (F : FmZ Z j.cx σ s) (hx : Storable j.env x) {sv : SV} (hv : SVIs Z s.heap v sv)
    (hap : ∀ a ds, sv = .own a ds → ∀ y ds', σ.lookup y = some (.own a ds') → False)
    {Q : Unit → Shared → Prop} {E : Value → Shared → Prop} (hQ : ∀ s', FmZ Z j.cx ((x, sv) :: σ) s' → Chg (mutC j.cx σ) s s' → (j.env.kindOf x = some .local → 0 < s'.toks) → Q () s') : wpAny (model j.prog j.w) j.A (storeName j.env x v) Q E s := by
  have key : ∀ (P : Addr) (h' : Heap) (tk : Nat) (m' : Str → Option Value), Heap.SameBut P s.heap h' → mutC j.cx σ P → (∀ a vs, s.heap.PlainList a vs → a ≠ P) → Live h' P → h'.Ns j.env.locals m' →
      (∀ y a, j.env.cells.lookup y = some a → ∃ ov, h'.IsCell a ov) → Holds j.cx m' h' x v →
      (∀ m, s.heap.Ns j.env.locals m → ∀ y u, y ≠ x → Holds j.cx m s.heap y u → Holds j.cx m' h' y u) →
      FmZ Z j.cx ((x, sv) :: σ) { s with heap := h', toks := tk } ∧ Chg (mutC j.cx σ) s { s with heap := h', toks := tk } := by
    intro P h' tk m' hs' hP hlist hPl hn' hcells hself hother
    have hPz := F.zin P (.inl hP)
    have hlive : ∀ b, Live s.heap b → Live h' b := fun b ⟨o, e⟩ => by
      by_cases q : b = P
      · subst q; exact hPl
      · exact ⟨o, (hs'.2 b q).trans e⟩
    have mv : ∀ {d : PyData} {u : Value}, RV Z s.heap d u → RV Z h' d u := fun q => q.move (fun b o hb e => (hs'.2 b fun q => hb (q ▸ hPz)).trans e) fun b q => .inl q
    have mvs : ∀ {d : List PyData} {u : List Value}, RVs Z s.heap d u → RVs Z h' d u := fun q => q.move (fun b o hb e => (hs'.2 b fun q => hb (q ▸ hPz)).trans e) fun b q => .inl q
    have hlist' : ∀ {a : Addr} {vs : Array Value}, s.heap.PlainList a vs → h'.PlainList a vs := fun {a vs} l => l.at fun o ho => (hs'.2 a (hlist a vs l)).trans ho
    obtain ⟨m, hn, hs⟩ := F.ns
    refine ⟨⟨fun b o e => (hs'.2 b fun q => F.dead P hPz ⟨o, q ▸ e⟩).trans (F.keep b o e), F.dead, ?_, fun b q => hlive b (F.hole b q), ⟨m', hn', fun y sv' e => ?_⟩, hcells, F.cellsApart, ?_⟩, Chg.of_heap fun b o hb e => (hs'.2 b fun q => hb (q ▸ hP)).trans e⟩
    · intro b q
      rcases q with (q | q | ⟨y, ds, e⟩) | q
      · exact F.zin b (.inl (.inl q))
      · exact F.zin b (.inl (.inr (.inl q)))
      · rcases lookup_put e with ⟨rfl, h1⟩ | ⟨_, h1⟩
        · subst h1; exact hv.2.1
        · exact F.zin b (.inl (.inr (.inr ⟨y, ds, h1⟩)))
      · exact F.zin b (.inr q)
    · rcases lookup_put e with ⟨rfl, rfl⟩ | ⟨hne, e'⟩
      · cases sv' with
        | dat d => exact ⟨v, hself, mv hv⟩
        | own a ds => obtain ⟨rfl, _, vs, hl, hvs⟩ := hv; exact ⟨hself, vs, hlist' hl, mvs hvs⟩
      · have := hs y sv' e'
        cases sv' with
        | dat d => obtain ⟨u, H, hu⟩ := this; exact ⟨u, hother m hn y u hne H, mv hu⟩
        | own a ds => obtain ⟨H, vs, hl, hu⟩ := this; exact ⟨hother m hn y _ hne H, vs, hlist' hl, mvs hu⟩
    · intro y z a ds ds' e e'
      rcases lookup_put e with ⟨rfl, h1⟩ | ⟨hne, h1⟩ <;> rcases lookup_put e' with ⟨rfl, h2⟩ | ⟨hne', h2⟩
      · rfl
      · exact (hap a ds h1.symm z ds' h2).elim
      · exact (hap a ds' h2.symm y ds h1).elim
      · exact F.apart y z a ds ds' h1 h2
  obtain ⟨m, hn, hs⟩ := F.ns
  rcases hx with hk | ⟨hk, hf, a, ha⟩
  · refine wpAny_storeName_local hk hn (fun h' hn' hs' => ?_) ok.storeOk
    have hcell : ∀ y a, j.env.cells.lookup y = some a → ∀ ov, s.heap.IsCell a ov → h'.IsCell a ov := fun y a e ov hc => IsCell.at hc fun o ho => (hs'.2 a (ns_ne_cell hn hc)).trans ho
    obtain ⟨F', C⟩ := key _ h' (s.toks + 1) _ hs' (.inl rfl) (fun a vs l => ns_ne_list hn l.isList) (let ⟨o, _, _, ho, _⟩ := hn'; ⟨o, ho⟩) hn' (fun y a e => let ⟨ov, hc⟩ := F.cells y a e; ⟨ov, hcell y a e ov hc⟩) (.inl ⟨hk, by simp⟩)
      (fun m₂ hn₂ y u hne H => H.cellAt (fun _ => by simp only [if_neg hne]; exact hn.agree hn₂ y) (hcell y))
    exact hQ _ F' C fun _ => Nat.succ_pos _
  · obtain ⟨ov, hc⟩ := F.cells x a ha
    refine wpAny_storeName_cell ok.kind hk ha hc (fun h' hc' hs' => ?_)
    have hcell : ∀ y b, y ≠ x → j.env.cells.lookup y = some b → ∀ ov, s.heap.IsCell b ov → h'.IsCell b ov := fun y b hne e ov hc₂ => IsCell.at hc₂ fun o ho => (hs'.2 b fun q => hne (F.cellsApart y x a (q ▸ e) ha)).trans ho
    have hne : j.env.locals ≠ a := (ns_ne_cell hn hc).symm
    obtain ⟨F', C⟩ := key a h' s.toks m hs' (.inr (.inl ⟨hf, x, ha⟩)) (fun b vs l => cell_ne_list hc l.isList) (let ⟨o, ho, _⟩ := hc'; ⟨o, ho⟩) (hn.sameBut hs' hne)
      (fun y b e => by
        by_cases q : y = x
        · subst q; rw [ha] at e; cases e; exact ⟨_, hc'⟩
        · obtain ⟨ov', h1⟩ := F.cells y b e; exact ⟨ov', hcell y b q e ov' h1⟩) (.inr ⟨.inl hk, a, ha, hc'⟩)
      (fun m₂ hn₂ y u hne H => H.cellAt (fun _ => hn.agree hn₂ y) fun b e ov h1 => hcell y b hne e ov h1)
    exact hQ _ F' C fun q => by rw [hk] at q; cases q

theorem fm_storeT (ok : Ok j) {s : Shared} (F : Fm j.cx σ s) (hx : Storable j.env x) (hv : RV (avC j.cx σ) s.heap d v)
    {Q : Unit → Shared → Prop} {E : Value → Shared → Prop} (hQ : ∀ s', Fm j.cx ((x, .dat d) :: σ) s' → Chg (mutC j.cx σ) s s' → (j.env.kindOf x = some .local → 0 < s'.toks) → Q () s') : wpAny (model j.prog j.w) j.A (storeName j.env x v) Q E s :=
  storeZ ok F hx (sv := .dat d) hv (fun _ _ e => by cases e) fun s' F' C T => hQ s' (F'.turn (fun b q => .inl (av_put q)) fun _ q => q) C T
theorem fm_store (ok : Ok j) {s : Shared} (F : Fm j.cx σ s) (hx : Storable j.env x) (hv : RV (avC j.cx σ) s.heap d v)
    {Q : Unit → Shared → Prop} {E : Value → Shared → Prop} (hQ : ∀ s', Fm j.cx ((x, .dat d) :: σ) s' → Chg (mutC j.cx σ) s s' → Q () s') : wpAny (model j.prog j.w) j.A (storeName j.env x v) Q E s :=
  fm_storeT ok F hx hv fun s' F' C _ => hQ s' F' C

/-- a fresh list becomes the call's own -/
theorem fm_own (ok : Ok j) {s₀ s : Shared} {a : Addr} {ds : List PyData} {vs : Array Value} (F : Fm j.cx σ s₀) (y : Ext s₀ s) (hx : Storable j.env x) (ha : ¬ Live s₀.heap a) (hl : s.heap.PlainList a vs) (hs : ∀ d ∈ ds, scal d = true) (hv : RVs Nowhere s.heap ds vs.toList)
    {Q : Unit → Shared → Prop} {E : Value → Shared → Prop} (hQ : ∀ s', Fm j.cx ((x, .own a ds) :: σ) s' → Chg (mutC j.cx σ) s s' → Q () s') : wpAny (model j.prog j.w) j.A (storeName j.env x (.ref a)) Q E s := by
  have hb : ¬ Live j.base a := fun ⟨o, e⟩ => ha ⟨o, F.keep a o e⟩
  have F₁ : FmZ (fun b => avC j.cx σ b ∨ b = a) j.cx σ s₀ := F.turn (fun b q => q.imp id fun e => by subst e; exact ⟨ha, hb⟩) fun b q => .inl q
  refine storeZ ok (F₁.ext y) hx (sv := .own a ds) ⟨rfl, .inr rfl, vs, hl, hv.scal hs⟩ (fun a' ds' e z ds₂ hz => ?_) fun s' F' C _ => hQ s' (F'.turn (fun b q => .inl ?_) fun _ q => q) C
  · cases e
    obtain ⟨m, _, hs⟩ := F.ns
    obtain ⟨_, _, ⟨n, ho⟩, _⟩ := hs z _ hz
    exact ha ⟨_, ho⟩
  · rcases q with (q | q | ⟨z, ds', e⟩) | q
    · exact .inl (.inl (.inl q))
    · exact .inl (.inl (.inr (.inl q)))
    · rcases lookup_put e with ⟨_, h1⟩ | ⟨_, h1⟩
      · cases h1; exact .inr rfl
      · exact .inl (.inl (.inr (.inr ⟨z, ds', h1⟩)))
    · exact .inl (.inr q)
end
end Pm

end
section
open PySem PySem.Calls PyProof.Rows
set_option Elab.async false
set_option linter.unusedVariables false
namespace Pm

theorem append_plain {prog : Program} {w : World} {A : Around} {E : Value → Shared → Prop} {s : Shared} {l : Addr} {its : Array Value} {x : Value} {Q : Value → Shared → Prop}
    (hl : s.heap.PlainList l its) (hQ : ∀ h', h'.PlainList l (its.push x) → Heap.SameBut l s.heap h' → Q .none { s with heap := h' })
    (hsz : its.size ≤ sizeLine) : wpAny (model prog w) A (call (.builtin "list.append") [.ref l, x]) Q E s := by
  obtain ⟨n, ho⟩ := id hl
  refine wpAny_call_entry slot_list_append hl.isList.typeIs entry_list_append ?_ (args_list_append _ _)
  show wpAny _ _ (updateSeq l (·.push x) >>= fun _ => ret .none) _ _ s
  refine wpAny_bind ?_
  refine wpAny_updateSeq ho rfl (wpAny_pure ⟨.none, rfl, hQ _ ?_ (Heap.SameBut.update ..)⟩)
  exact ⟨_, Heap.get?_update_self _ ho rfl⟩

theorem extend_plain {prog : Program} {w : World} {A : Around} {E : Value → Shared → Prop} {s : Shared} {l b : Addr} {its its2 : Array Value} {Q : Value → Shared → Prop}
    (hl : s.heap.PlainList l its) (hb : s.heap.PlainList b its2) (hQ : ∀ h', h'.PlainList l (its ++ its2) → Heap.SameBut l s.heap h' → Q .none { s with heap := h' })
    (hsz : its.size + its2.size ≤ sizeLine) : wpAny (model prog w) A (call (.builtin "list.extend") [.ref l, .ref b]) Q E s := by
  obtain ⟨n, ho⟩ := id hl
  obtain ⟨n2, hb2⟩ := id hb
  refine call_meets PySem.F.slot_list_extend ⟨_, ho, rfl⟩ PySem.F.entry_list_extend (PySem.F.args_list_extend_2 _ _) (AutoSeq1.list_extend_list_list_0 l its n b its2 n2 (extend_door hsz) (Nat.le_trans (Nat.le_add_right _ _) hsz)) ⟨ho, hb2, ?_⟩
  have e : (s.heap.update l (Obj.mapSeq fun x => x ++ its2)).get? l = some { cls := .type "list", data := .seq (its ++ its2) (if (its ++ its2).size == its.size then n else n + 1) } := by
    rw [Heap.get?_update_self _ ho (by rw [mapSeq_app]; rfl), mapSeq_app]
  exact hQ _ ⟨_, e⟩ (Heap.SameBut.update ..)

section
variable {j : J} {σ : Sto} {md : Md} {e : PySem.Expr} {d : PyData} {pos : Pos} {rest : List Stmt} {P P₁ : RF → Sto → Prop} {x : Str}

theorem se_nil (h : P .next σ) : SE j σ [] P := fun ok s F Q E hQ => wpAny_execs_nil (hQ .next .next σ s h trivial (.refl F))
theorem flow_next {c : Cx} {s : Shared} {rf : RF} (h : FlowIs c s rf .next) : rf = .next := by cases rf <;> first | rfl | cases h
theorem se_cons {st : Stmt} (h : S1 j σ st P₁) (hn : ∀ σ', P₁ .next σ' → SE j σ' rest P) (hr : ∀ rf σ', rf ≠ .next → P₁ rf σ' → P rf σ') : SE j σ (st :: rest) P :=
  fun ok s F Q E hQ => wpAny_execs_cons (h ok s F _ _ fun rf f σ' s' hp hf st => by
    cases rf with
    | next =>
      cases f with
      | next => exact hn σ' hp ok s' st.fm _ _ fun rf f σ'' s'' hp' hf' st' => hQ rf f σ'' s'' hp' hf' (st.trans st')
      | _ => cases hf
    | brk => cases f <;> first | exact hQ _ _ _ _ (hr _ _ (by simp) hp) hf st | cases hf
    | cont => cases f <;> first | exact hQ _ _ _ _ (hr _ _ (by simp) hp) hf st | cases hf
    | ret d => cases f <;> first | exact hQ _ _ _ _ (hr _ _ (by simp) hp) hf st | cases hf)
theorem SE.weak {ss : List Stmt} (h : SE j σ ss P₁) (hp : ∀ rf τ, P₁ rf τ → P rf τ) : SE j σ ss P := fun ok s F Q E hQ => h ok s F Q E fun rf f σ' s' q => hQ rf f σ' s' (hp rf σ' q)
theorem s1_assign {xp : Pos} (h : PE j σ md e d) (hmd : md ≠ .trans ∨ scal d = true) (hx : Storable j.env x) (hs : swapsWith e (some (.Name x xp)) pos.line j.env = pure false := by rfl) :
    S1 j σ (.Assign [.Name x xp] e pos) fun rf τ => rf = .next ∧ τ = (x, .dat d) :: σ :=
  fun ok s F Q E hQ => wpAny_Assign_Name (h.at ok F (Chg.refl s) fun v s₁ x₁ hv => fm_store ok (F.ext x₁) hx (by
    rcases hmd with q | q
    · cases md with
      | fresh => exact hv.thin fun b q => F.avLive q
      | frozen => exact hv
      | trans => exact absurd rfl q
    · exact hv.scal q) fun s' F' C => hQ .next .next _ s' ⟨rfl, rfl⟩ trivial ⟨F', Chg.extThen x₁ C, fun b q => .inl (mut_put q)⟩) hs

/-- a fresh list, the call's own from here on -/
theorem s1_own {xp : Pos} {ds : List PyData} (h : PE j σ .fresh e (.list ds)) (hds : ∀ d ∈ ds, scal d = true) (hx : Storable j.env x) (hs : swapsWith e (some (.Name x xp)) pos.line j.env = pure false := by rfl) :
    S1 j σ (.Assign [.Name x xp] e pos) fun rf τ => rf = .next ∧ ∃ a, τ = (x, .own a ds) :: σ :=
  fun ok s F Q E hQ => wpAny_Assign_Name (h.at ok F (Chg.refl s) fun v s₁ x₁ hv => by
    obtain ⟨a, vs, rfl, ha, hl, hr⟩ := RV.list_iff.mp hv
    refine fm_own ok F x₁ hx ha hl hds (hr.thin fun _ q => q.elim) fun s' F' C => hQ .next .next _ s' ⟨rfl, a, rfl⟩ trivial ⟨F', Chg.extThen x₁ C, fun b q => ?_⟩
    rcases q with q | q | ⟨z, ds', q⟩
    · exact .inl (.inl q)
    · exact .inl (.inr (.inl q))
    · rcases lookup_put q with ⟨_, h1⟩ | ⟨_, h1⟩
      · cases h1; exact .inr ha
      · exact .inl (.inr (.inr ⟨z, ds', h1⟩))) hs

theorem own_isL {c : Cx} {s : Shared} {a : Addr} {ds : List PyData} (F : Fm c σ s) (hx : σ.lookup x = some (.own a ds)) : ∃ vs, s.heap.PlainList a vs ∧ RVs (avC c σ) s.heap ds vs.toList := by
  obtain ⟨m, _, hs⟩ := F.ns
  exact (hs x _ hx).2

/-- the call's own list is another one now -/
theorem fm_regrow {c : Cx} {s : Shared} {a : Addr} {ds ds' : List PyData} {vs' : Array Value} {h' : Heap} {tk : Nat} (F : Fm c σ s) (hx : σ.lookup x = some (.own a ds)) (hs' : Heap.SameBut a s.heap h') (hl : h'.PlainList a vs') (hv : RVs (avC c σ) s.heap ds' vs'.toList) :
    Stp c σ ((x, .own a ds') :: σ) s { s with heap := h', toks := tk } := by
  have ha : mutC c σ a := .inr (.inr ⟨x, ds, hx⟩)
  have hm : ∀ b, mutC c ((x, .own a ds') :: σ) b → mutC c σ b := by
    rintro b (q | q | ⟨y, dd, q⟩)
    · exact .inl q
    · exact .inr (.inl q)
    · rcases lookup_put q with ⟨rfl, h1⟩ | ⟨_, h1⟩
      · cases h1; exact ha
      · exact .inr (.inr ⟨y, dd, h1⟩)
  have hm' : ∀ b, avC c ((x, .own a ds') :: σ) b → avC c σ b := fun b q => q.imp (hm b) id
  have mv : ∀ {d : PyData} {u : Value}, RV (avC c σ) s.heap d u → RV (avC c ((x, .own a ds') :: σ)) h' d u := fun q => q.move (fun b o hb e => (hs'.2 b fun q => hb (q ▸ .inl ha)).trans e) fun b q => .inl (hm' b q)
  have mvs : ∀ {d : List PyData} {u : List Value}, RVs (avC c σ) s.heap d u → RVs (avC c ((x, .own a ds') :: σ)) h' d u := fun q => q.move (fun b o hb e => (hs'.2 b fun q => hb (q ▸ .inl ha)).trans e) fun b q => .inl (hm' b q)
  obtain ⟨m, hn, hs⟩ := F.ns
  obtain ⟨H₀, vs₀, hl₀, _⟩ := hs x _ hx
  have hnL : c.env.locals ≠ a := (ns_ne_list hn hl₀.isList).symm
  have cellk : ∀ {b ov}, s.heap.IsCell b ov → h'.IsCell b ov := fun {b ov} hc => IsCell.at hc fun o ho => (hs'.2 b (cell_ne_list hc hl₀.isList).symm).trans ho
  have hk : ∀ {y u}, Holds c m s.heap y u → Holds c m h' y u := fun {y u} H => H.cellAt (fun _ => rfl) fun _ _ _ hc => cellk hc
  refine ⟨⟨fun b o e => (hs'.2 b fun q => F.dead a (.inl ha) ⟨o, q ▸ e⟩).trans (F.keep b o e), fun b q => F.dead b (hm' b q), fun _ q => q, fun b q => ?_, ⟨m, hn.sameBut hs' hnL, fun y sv e => ?_⟩, fun y b e => let ⟨ov, hc⟩ := F.cells y b e; ⟨ov, cellk hc⟩, F.cellsApart, ?_⟩,
    Chg.of_heap fun b o hb e => (hs'.2 b fun q => hb (q ▸ ha)).trans e, fun b q => .inl (hm b q)⟩
  · obtain ⟨o, e⟩ := F.hole b q
    by_cases hb : b = a
    · subst hb; obtain ⟨n, e'⟩ := hl; exact ⟨_, e'⟩
    · exact ⟨o, (hs'.2 b hb).trans e⟩
  · rcases lookup_put e with ⟨rfl, rfl⟩ | ⟨hne, e'⟩
    · exact ⟨hk H₀, vs', hl, mvs hv⟩
    · have := hs y sv e'
      cases sv with
      | dat d => obtain ⟨u, H, hu⟩ := this; exact ⟨u, hk H, mv hu⟩
      | own b dd =>
        obtain ⟨H, vs, hlb, hu⟩ := this
        exact ⟨hk H, vs, hlb.at fun o ho => (hs'.2 b fun q => hne (by subst q; exact F.apart _ _ _ _ _ e' hx)).trans ho, mvs hu⟩
  · intro y z b dd dd' e e'
    rcases lookup_put e with ⟨rfl, h1⟩ | ⟨hne, h1⟩ <;> rcases lookup_put e' with ⟨rfl, h2⟩ | ⟨hne', h2⟩
    · rfl
    · cases h1; exact F.apart _ _ _ _ _ hx h2
    · cases h2; exact F.apart _ _ _ _ _ h1 hx
    · exact F.apart _ _ _ _ _ h1 h2

theorem interactive_no (ok : Ok j) : interactive j.env = false := by unfold interactive; rw [ok.kind]; rfl

theorem s1_append {xp ap cp : Pos} {a : Addr} {ds : List PyData} (hx : σ.lookup x = some (.own a ds)) (h : PE j σ md e d) (hmd : md ≠ .trans ∨ scal d = true) (hz : ds.length < 1000)
    (hbase : attributeBase (.Name x xp) "append" j.env (eval (.Name x xp) j.env) = eval (.Name x xp) j.env := by rfl)
    (hfew : ((backTo cp (starEach [e] j.env)).all (fun x => !x.1) && (backToKw cp (keywordEach [] j.env)).all (fun x => x.1.isSome)
      && decide (([e] : List PySem.Expr).length + ([] : List Keyword).length + (if ([] : List Keyword).isEmpty then 0 else 1) < 30)) = true := by rfl)
    (hline : (ap.endLine == cp.line) = true := by rfl) (htrees : backTo cp (starEach [e] j.env) = [(false, eval e j.env)] := by rfl)
    (hd : (x == ("__debug__" : Str)) = false := by decide) (hc : (x == ("__classdict__" : Str)) = false := by decide) :
    S1 j σ (.Expr (.Call (.Attribute (.Name x xp) "append" ap) [e] [] cp) pos) fun rf τ => rf = .next ∧ τ = (x, .own a (ds ++ [d])) :: σ :=
  fun ok s F Q E hQ => by
    refine wpAny_Expr (wpAny_Call_append hbase hfew hline htrees (wpAny_Name (load_own ok F hx hc fun vs hl hv => ⟨a, vs, rfl, ?_, ?_⟩) hd)) (interactive_no ok) rfl
    · obtain ⟨n, ho⟩ := hl; exact ⟨_, n, ho, rfl, rfl, rfl⟩
    · refine h.at ok F (Chg.refl s) fun v s₁ x₁ hv₁ => ?_
      obtain ⟨vs₁, hl₁, hr₁⟩ := own_isL (F.ext x₁) hx
      refine append_plain hl₁ (fun h' hl' hs' => ?_) (by
        have := hr₁.len
        rw [← Array.length_toList, this]
        have e : sizeLine = 16777216 := by decide
        omega)
      refine hQ .next .next _ _ ⟨rfl, rfl⟩ trivial ((Stp.ext F x₁).trans (fm_regrow (F.ext x₁) hx hs' hl' ?_))
      rw [Array.toList_push]
      refine hr₁.append (.cons ?_ .nil)
      rcases hmd with q | q
      · cases md with
        | fresh => exact hv₁.thin fun b q => F.avLive q
        | frozen => exact hv₁
        | trans => exact absurd rfl q
      · exact hv₁.scal q

theorem s1_return (h : PE j σ md e d) (hmd : md = .fresh ∨ scal d = true) : S1 j σ (.Return (some e) pos) fun rf τ => rf = .ret d ∧ τ = σ :=
  fun ok s F Q E hQ => wpAny_Return_some (h.at ok F (Chg.refl s) fun v s₁ x₁ hv => hQ (.ret d) (.ret v) σ s₁ ⟨rfl, rfl⟩ (by
    rcases hmd with q | q
    · subst q; exact hv.thin fun b ⟨o, ho⟩ => ⟨o, F.keep b o ho⟩
    · exact hv.scal q) (Stp.ext F x₁))
theorem s1_return_own {xp : Pos} {a : Addr} {ds : List PyData} (hx : σ.lookup x = some (.own a ds)) (hds : ∀ d ∈ ds, scal d = true) (hd : (x == ("__debug__" : Str)) = false := by decide) (hc : (x == ("__classdict__" : Str)) = false := by decide) :
    S1 j σ (.Return (some (.Name x xp)) pos) fun rf τ => rf = .ret (.list ds) ∧ τ = σ :=
  fun ok s F Q E hQ => wpAny_Return_some (wpAny_Name (load_own ok F hx hc fun vs hl hv => hQ (.ret (.list ds)) _ σ s ⟨rfl, rfl⟩
    (RV.list_iff.mpr ⟨a, vs, rfl, F.dead a (.inl (.inr (.inr ⟨x, ds, hx⟩))), hl, hv.scal hds⟩) (.refl F)) hd)
theorem s1_break : S1 j σ (.Break pos) fun rf τ => rf = .brk ∧ τ = σ := fun ok s F Q E hQ => wpAny_Break (hQ .brk .brk σ s ⟨rfl, rfl⟩ trivial (.refl F))

theorem s1_if {test : PySem.Expr} {b : Bool} {body orelse : List Stmt} (h : PB j σ test b) (ht : b = true → SE j σ body P) (hf : b = false → SE j σ orelse P) : S1 j σ (.If test body orelse pos) P :=
  fun ok s F Q E hQ => wpAny_If (h ok s F _ _ fun s₁ x₁ => by
    cases b with
    | true => exact ht rfl ok s₁ (F.ext x₁) _ _ fun rf f σ' s' q hf st => hQ rf f σ' s' q hf ((Stp.ext F x₁).trans st)
    | false => exact hf rfl ok s₁ (F.ext x₁) _ _ fun rf f σ' s' q hf st => hQ rf f σ' s' q hf ((Stp.ext F x₁).trans st))

theorem s1_aug {op : Operator} {xp : Pos} {d₀ d₁ : PyData} (hx : σ.lookup x = some (.dat d₀)) (h : PE j σ md e d₁) (hsx : Storable j.env x) (hs : scal d = true)
    (hop : ∀ (A : Around), Rm j.n A → ∀ (s : Shared) (v₁ v₂ : Value) (Q : Value → Shared → Prop) (E : Value → Shared → Prop), RV Nowhere s.heap d₀ v₁ → RV Nowhere s.heap d₁ v₂ →
      (∀ v s', Ext s s' → RV (Live s.heap) s'.heap d v → Q v s') → wpAny (model j.prog j.w) A (inplaceOp op v₁ v₂) Q E s) (hc : (x == ("__classdict__" : Str)) = false := by decide) :
    S1 j σ (.AugAssign (.Name x xp) op e pos) fun rf τ => rf = .next ∧ τ = (x, .dat d) :: σ :=
  fun ok s F Q E hQ => wpAny_AugAssign_Name (load_dat ok F hx hc fun v₁ hv₁ => h.at ok F (Chg.refl s) fun v₂ s₂ x₂ hv₂ =>
    hop j.A ok.rm s₂ v₁ v₂ _ _ ((hv₁.ext x₂).thin fun _ q => q.elim) (hv₂.thin fun _ q => q.elim) fun v s₃ x₃ hv₃ =>
      fm_store ok ((F.ext x₂).ext x₃) hsx (hv₃.scal hs) fun s' F' C => hQ .next .next _ s' ⟨rfl, rfl⟩ trivial ⟨F', Chg.extThen (x₂.thenExt x₃) C, fun b q => .inl (mut_put q)⟩)
theorem s1_augAdd {xp : Pos} {a b : Int} (hx : σ.lookup x = some (.dat (.int a))) (h : PE j σ md e (.int b)) (hsx : Storable j.env x) (hc : (x == ("__classdict__" : Str)) = false := by decide) :
    S1 j σ (.AugAssign (.Name x xp) .Add e pos) fun rf τ => rf = .next ∧ τ = (x, .dat (.int (a + b))) :: σ :=
  s1_aug hx h hsx rfl (fun A _ s v₁ v₂ Q E r₁ r₂ hQ => by
    obtain ⟨t, rfl⟩ := RV.int_iff.mp r₁; obtain ⟨u, rfl⟩ := RV.int_iff.mp r₂
    exact iadd_int (hQ _ _ (Ext.toks _) (RV.int_iff.mpr ⟨_, rfl⟩))) hc
theorem s1_augSub {xp : Pos} {a b : Int} (hx : σ.lookup x = some (.dat (.int a))) (h : PE j σ md e (.int b)) (hsx : Storable j.env x) (hc : (x == ("__classdict__" : Str)) = false := by decide) :
    S1 j σ (.AugAssign (.Name x xp) .Sub e pos) fun rf τ => rf = .next ∧ τ = (x, .dat (.int (a - b))) :: σ :=
  s1_aug hx h hsx rfl (fun A _ s v₁ v₂ Q E r₁ r₂ hQ => by
    obtain ⟨t, rfl⟩ := RV.int_iff.mp r₁; obtain ⟨u, rfl⟩ := RV.int_iff.mp r₂
    exact isub_int (hQ _ _ (Ext.toks _) (RV.int_iff.mpr ⟨_, rfl⟩))) hc

end
end Pm

end
section
open PySem
set_option Elab.async false
namespace Pm

theorem upd_size (h : Heap) (a : Addr) (f : Obj → Obj) : (h.update a f).objs.size = h.objs.size := by simp [Heap.update]
theorem runs_size {M : Model} {Γ : Ctx} {p : Pos} {t : Sem Fin} {fs : List Frame} {s s' : Shared} {e : End} (h : Runs M Γ p t fs s e s') : s.heap.objs.size ≤ s'.heap.objs.size := by
  induction h <;> (try simp only [Shared.setGen, upd_size, Heap.size_push] at *) <;> omega
theorem returns_size {M : Model} {Γ : Ctx} {p : Pos} {s s' : Shared} {r : Result} (h : Returns M Γ p s r s') : s.heap.objs.size ≤ s'.heap.objs.size := runs_size h
theorem wakes_size {M : Model} {Γ : Ctx} {p : Pos} {g : Nat} {r : Resume} {s s' : Shared} {res : GenResult} (h : Wakes M Γ p g r s res s') : s.heap.objs.size ≤ s'.heap.objs.size := by
  unfold Wakes at h
  split at h
  · exact h.elim
  · split at h
    · obtain ⟨e₁, s₁, hr, _, _, rfl⟩ := h; exact (runs_size hr : (s.setGen g .running).heap.objs.size ≤ s₁.heap.objs.size)
    · rw [h.2]; exact Nat.le_refl _
    · rw [h.2]; exact Nat.le_refl _
  · obtain ⟨e₁, s₁, hr, _, _, rfl⟩ := h; exact (runs_size hr : (s.setGen g .running).heap.objs.size ≤ s₁.heap.objs.size)
  · rw [h.2]; exact Nat.le_refl _
  · rw [h.2]; exact Nat.le_refl _

theorem wp_size {α : Type} (M : Model) (Γ : Ctx) (n : Nat) (t : Sem α) : ∀ (Q : α → Pos → Shared → Prop) (E : Value → Pos → Shared → Prop) (p : Pos) (s : Shared), n ≤ s.heap.objs.size → Sem.wp M Γ t Q E p s →
    Sem.wp M Γ t (fun a p' s' => n ≤ s'.heap.objs.size ∧ Q a p' s') (fun e p' s' => n ≤ s'.heap.objs.size ∧ E e p' s') p s := by
  induction t with
  | pure a => intro Q E p s hn h; exact ⟨hn, h⟩
  | raise e => intro Q E p s hn h; exact ⟨hn, h⟩
  | unsupported _ => intro Q E p s _ h; exact h
  | finish _ => intro Q E p s _ h; exact h
  | rule _ k ih => intro Q E p s hn h; exact ih () Q E p s hn h
  | «at» p' k ih => intro Q E p s hn h; exact ih () Q E p' s hn h
  | load a _ k ih => intro Q E p s hn h; obtain ⟨o, ho, h⟩ := h; exact ⟨o, ho, ih o Q E p s hn h⟩
  | update a _ f k ih => intro Q E p s hn h; exact ⟨h.1, ih () Q E p _ (by simpa only [upd_size] using hn) h.2⟩
  | loadIfAlive a k ih => intro Q E p s hn h; exact ih _ Q E p s hn h
  | point _ k ih => intro Q E p s hn h; exact ih () Q E p s hn h
  | register _ _ => intro Q E p s _ h; exact h
  | alloc o k ih => intro Q E p s hn h; exact ih _ Q E p _ (by simp only [Heap.size_push]; exact Nat.le_succ_of_le hn) h
  | fresh k ih => intro Q E p s hn h; exact ih _ Q E p _ hn h
  | ask k ih => intro Q E p s hn h; exact ih _ Q E p s hn h
  | choose src m k ih => intro Q E p s hn h; exact ⟨h.1, ih _ Q E p _ hn h.2⟩
  | os q _ k ih => intro Q E p s hn h; exact ih _ Q E p _ hn h
  | call c hd _ _ k ih => intro Q E p s hn h; obtain ⟨r, s', hr, h⟩ := h; exact ⟨r, s', hr, ih r Q E p s' (Nat.le_trans hn (returns_size hr)) h⟩
  | handled own k ih => intro Q E p s hn h; exact ih _ Q E p s hn h
  | genState g k ih => intro Q E p s hn h; obtain ⟨st, hs, h⟩ := h; exact ⟨st, hs, ih _ Q E p s hn h⟩
  | newGen c k ih => intro Q E p s hn h; exact ih _ Q E p _ hn h
  | resume g r _ k ih => intro Q E p s hn h; obtain ⟨res, s', hw, h⟩ := h; exact ⟨res, s', hw, ih res Q E p s' (Nat.le_trans hn (wakes_size hw)) h⟩
  | yield _ _ _ _ => intro Q E p s _ h; exact h
  | stack k ih => intro Q E p s hn h; exact ih _ Q E p s hn h
  | fork _ _ => intro Q E p s _ h; exact h
  | thread k ih => intro Q E p s hn h; exact ih _ Q E p s hn h
  | await _ _ _ _ _ => intro Q E p s _ h; exact h

/-- the heap only grows: to be had for nothing at any step -/
theorem sized {α : Type} {M : Model} {A : Around} {s : Shared} {t : Sem α} {Q : α → Shared → Prop} {E : Value → Shared → Prop}
    (h : wpAny M A t (fun a s' => s.heap.objs.size ≤ s'.heap.objs.size → Q a s') E s) : wpAny M A t Q E s :=
  fun Γ p hΓ => Sem.wp_mono M Γ _ (fun _ _ _ x => x.2 x.1) (fun _ _ _ x => x.2) p s (wp_size M Γ _ t _ _ p s (Nat.le_refl _) (h Γ p hΓ))
theorem none_above {h : Heap} {b : Addr} (hb : h.objs.size ≤ b) : h.get? b = none := Heap.get?_none_of_le hb
end Pm

end
section
open PySem PySem.Calls PyProof.Rows
set_option Elab.async false
set_option linter.unusedVariables false
namespace Pm

theorem dead_above {h : Heap} {b : Addr} (hb : h.objs.size ≤ b) : ¬ Live h b := fun ⟨o, e⟩ => Nat.lt_irrefl _ (Nat.lt_of_lt_of_le (Heap.lt_size e) hb)
theorem Ext.but {s : Shared} {h' : Heap} {tk : Nat} (hs : Heap.ExtBut s.heap.objs.size s.heap h') : Ext s { s with heap := h', toks := tk } :=
  Ext.heap fun b o e => hs b o (Nat.ne_of_lt (Heap.lt_size e)) e

/-- the facts outlast a stretch that turns only places which nothing here lies on -/
theorem FmZ.chg {Z W : Addr → Prop} {G : Nat → Prop} {c : Cx} {σ : Sto} {s s' : Shared} (F : FmZ Z c σ s) (x : ChgG W G s s') (hz : ∀ b, W b → Z b) (hm : ∀ b, W b → ¬ mutC c σ b) (hc : ∀ b, W b → ∀ y, c.env.cells.lookup y ≠ some b) (hl : ∀ b, c.hole b → W b → Live s'.heap b) : FmZ Z c σ s' := by
  have k : ∀ b o, ¬ W b → s.heap.get? b = some o → s'.heap.get? b = some o := x.keep
  obtain ⟨m, hn, hs⟩ := F.ns
  have mv : ∀ {d : PyData} {u : Value}, RV Z s.heap d u → RV Z s'.heap d u := fun q => q.move (fun b o hb e => k b o (fun w => hb (hz b w)) e) fun b q => .inl q
  have mvs : ∀ {d : List PyData} {u : List Value}, RVs Z s.heap d u → RVs Z s'.heap d u := fun q => q.move (fun b o hb e => k b o (fun w => hb (hz b w)) e) fun b q => .inl q
  have hk : ∀ {y u}, Holds c m s.heap y u → Holds c m s'.heap y u := fun {y u} H => H.cellAt (fun _ => rfl) fun a ha ov hcl => IsCell.at hcl fun o ho => k a o (fun w => hc a w y ha) ho
  refine ⟨fun b o e => k b o (fun w => F.dead b (hz b w) ⟨o, e⟩) (F.keep b o e), F.dead, F.zin, fun b q => ?_, ⟨m, hn.at fun o e => k _ o (fun w => hm _ w (.inl rfl)) e, fun y sv e => ?_⟩,
    fun y a e => let ⟨ov, h⟩ := F.cells y a e; ⟨ov, IsCell.at h fun o ho => k a o (fun w => hc a w y e) ho⟩, F.cellsApart, F.apart⟩
  · by_cases w : W b
    · exact hl b q w
    · obtain ⟨o, e⟩ := F.hole b q; exact ⟨o, k b o w e⟩
  · have := hs y sv e
    cases sv with
    | dat d => obtain ⟨u, H, hu⟩ := this; exact ⟨u, hk H, mv hu⟩
    | own a dd =>
      obtain ⟨H, vs, hlb, hu⟩ := this
      exact ⟨hk H, vs, hlb.at fun o ho => k a o (fun w => hm a w (.inr (.inr ⟨y, dd, e⟩))) ho, mvs hu⟩

/-- what stood and was no place of the call's own stands yet -/
def Frz (c : Cx) (σ : Sto) (s₁ s : Shared) : Prop := ∀ b o, ¬ avC c σ b → s₁.heap.get? b = some o → s.heap.get? b = some o

/-- an iterator over the data, born behind s₁, with places of its own and its generators G -/
structure Itr (prog : Program) (w : World) (A : Around) (c : Cx) (σ : Sto) (s₁ : Shared) (it : Addr) (tgt : PySem.Expr) (ds : List PyData) (G : Nat → Prop) (St : Nat → (Addr → Prop) → Shared → Prop) : Prop where
  step : ∀ (i : Nat) (W : Addr → Prop) (d : PyData) (s : Shared), ds[i]? = some d → St i W s → Frz c σ s₁ s → ∀ (Z : Addr → Prop), (∀ b, Z b → Live s.heap b) → (∀ b, Z b → avC c σ b ∨ ¬ Live s₁.heap b) → (∀ b, Z b → ¬ W b) → s₁.heap.objs.size ≤ s.heap.objs.size →
    ∀ (Q : Value → Shared → Prop) (N : Shared → Prop) (E : Value → Shared → Prop), (∀ v s' W', ChgG W G s s' → s.heap.objs.size ≤ s'.heap.objs.size → St (i + 1) W' s' → (∀ b, W' b → W b ∨ s.heap.objs.size ≤ b) → RV (fun b => Z b ∨ W' b) s'.heap d v → Q v s') →
      wpAny (model prog w) A (pyNext (.ref it)) (fun r s₂ => match r with | none => N s₂ | some v => wpAny (model prog w) A (letOwnedTupleGo tgt (.ref it) v) (fun _ s₃ => Q v s₃) E s₂) E s
  stop : ∀ (W : Addr → Prop) (s : Shared), St ds.length W s → Frz c σ s₁ s → ∀ (Q : Option Value → Shared → Prop) (E : Value → Shared → Prop), (∀ s', ChgG W G s s' → Q none s') → wpAny (model prog w) A (pyNext (.ref it)) Q E s
  frame : ∀ (i : Nat) (W : Addr → Prop) (s s' : Shared), St i W s → (∀ b o, W b → s.heap.get? b = some o → s'.heap.get? b = some o) → (∀ g, G g → s'.gens[g]? = s.gens[g]?) → St i W s'
  live : ∀ (i : Nat) (W : Addr → Prop) (s : Shared), St i W s → Frz c σ s₁ s → (∀ b, W b → Live s.heap b) ∧ (∀ g, G g → g < s.gens.size)
  dead : ∀ (i : Nat) (W : Addr → Prop) (s : Shared), St i W s → ∀ b, W b → ¬ Live s₁.heap b
  self : ∀ (i : Nat) (W : Addr → Prop) (s : Shared), St i W s → Frz c σ s₁ s → ∀ (Q : Value → Shared → Prop) (E : Value → Shared → Prop), Q (.ref it) s → wpAny (model prog w) A (pyIter (.ref it)) Q E s

/-- the expression yields what a loop may draw the data from -/
def PI (j : J) (σ : Sto) (iter tgt : PySem.Expr) (ds : List PyData) : Prop :=
  Ok j → ∀ s, Fm j.cx σ s → ∀ (Q : Value → Shared → Prop) (E : Value → Shared → Prop),
    (∀ it s₁ s₂ W G St, Ext s s₁ → Ext s₁ s₂ → Itr j.prog j.w j.A j.cx σ s₁ it tgt ds G St → St 0 W s₂ → (∀ g, G g → s₁.gens.size ≤ g) → s₁.heap.objs.size ≤ s₂.heap.objs.size → Q (.ref it) s₂) →
      wpAny (model j.prog j.w) j.A (eval iter j.env) (fun x s₁ => wpAny (model j.prog j.w) j.A (pyIter x) Q E s₁) E s

/-- other places under way -/
theorem FmZ.rehole {Z Z' : Addr → Prop} {c : Cx} {σ : Sto} {s : Shared} {H : Addr → Prop} (F : FmZ Z c σ s) (hH : ∀ b, H b → Live s.heap b) (hz : ∀ b, Z' b → Z b) (hin : ∀ b, mutC c σ b ∨ H b → Z' b) : FmZ Z' { c with hole := H } σ s := by
  obtain ⟨m, hn, hs⟩ := F.ns
  refine ⟨F.keep, fun b q => F.dead b (hz b q), fun b q => hin b q, hH, ⟨m, hn, fun y sv e => ?_⟩, F.cells, F.cellsApart, F.apart⟩
  have := hs y sv e
  cases sv with
  | dat d => obtain ⟨u, hu, hv⟩ := this; exact ⟨u, hu, hv.thin hz⟩
  | own a dd => obtain ⟨hu, vs, hl, hv⟩ := this; exact ⟨hu, vs, hl, hv.thin hz⟩

/-- the store with the target bound -/
def bindT : PySem.Expr → PyData → Sto → Sto
  | .Name x _, d, τ => (x, .dat d) :: τ
  | .Tuple [.Name a _, .Name b _] _ _, .tuple [d₁, d₂], τ => (b, .dat d₂) :: (a, .dat d₁) :: τ
  | _, _, τ => τ
inductive TgtOk (env : Env) : PySem.Expr → PyData → Prop
  | one {x : Str} {p : Pos} {d : PyData} (h : Storable env x) : TgtOk env (.Name x p) d
  | two {a b : Str} {pa pb p : Pos} {k : Nat} {d₁ d₂ : PyData} (h : Storable env a ∧ Storable env b) : TgtOk env (.Tuple [.Name a pa, .Name b pb] k p) (.tuple [d₁, d₂])

/-- a plain local's name: storing it draws a token -/
def tokT : PySem.Expr → Env → Prop
  | .Name x _, env => env.kindOf x = some .local
  | _, _ => False
/-- statements run from a state whose tokens have begun -/
def SEt (c : Prop) (j : J) (σ : Sto) (ss : List Stmt) (P : RF → Sto → Prop) : Prop :=
  Ok j → ∀ s, Fm j.cx σ s → (c → 0 < s.toks) → ∀ (Q : Flow → Shared → Prop) (E : Value → Shared → Prop),
    (∀ rf f σ' s', P rf σ' → FlowIs j.cx s' rf f → Stp j.cx σ σ' s s' → Q f s') → wpAny (model j.prog j.w) j.A (execs ss j.env) Q E s
theorem SE.t {c : Prop} {j : J} {σ : Sto} {ss : List Stmt} {P : RF → Sto → Prop} (h : SE j σ ss P) : SEt c j σ ss P := fun ok s F _ => h ok s F
theorem J.hole_env (j : J) (H : Addr → Prop) : ({ j with hole := H } : J).env = j.env := rfl

section
variable {j : J} {σ τ : Sto}

theorem assignT (ok : Ok j) {tgt : PySem.Expr} {d : PyData} {v : Value} (ht : TgtOk j.env tgt d) {s : Shared} (F : Fm j.cx τ s) (hv : RV (avC j.cx τ) s.heap d v)
    {Q : Unit → Shared → Prop} {E : Value → Shared → Prop} (hQ : ∀ s', Stp j.cx τ (bindT tgt d τ) s s' → (tokT tgt j.env → 0 < s'.toks) → Q () s') : wpAny (model j.prog j.w) j.A (assign tgt j.env v) Q E s := by
  rcases ht with @⟨x, p, _, ht⟩ | @⟨a, b, pa, pb, p, k, d₁, d₂, ht⟩
  · exact wpAny_assign_Name (fm_storeT ok F ht hv fun s' F' C T => hQ s' ⟨F', C, fun b q => .inl (mut_put q)⟩ T)
  · obtain ⟨T, vs, rfl, hT, hl, hr⟩ := RV.tuple_iff.mp hv
    obtain ⟨v₁, r₁, e₁, h₁, hr⟩ := RVs.cons_iff.mp hr
    obtain ⟨v₂, r₂, e₂, h₂, hr⟩ := RVs.cons_iff.mp hr
    have e₃ := RVs.nil_iff.mp hr
    subst e₃ e₂
    have hsz : vs.size = 2 := by rw [← Array.length_toList, e₁]; rfl
    refine wpAny_assign_Tuple ok.rm.handled hl (by show 2 = vs.size; exact hsz.symm) rfl fun h' he => ?_
    rw [e₁]
    have x₁ : Ext s { s with heap := h' } := Ext.but (tk := s.toks) he
    show wpAny _ _ (do holding [v₂] (assign (.Name a pa) j.env v₁); holding [] (assign (.Name b pb) j.env v₂); assignInOrder [] []) Q E _
    refine wpAny_bind (wpAny_holding (wpAny_assign_Name (fm_store ok (F.ext x₁) ht.1 (h₁.ext x₁) fun s₂ F₂ C₂ => ?_)))
    have h₂' : RV (avC j.cx ((a, .dat d₁) :: τ)) s₂.heap d₂ v₂ := (h₂.ext x₁).move (fun b o hb e => C₂.keep b o (fun q => hb (.inl q)) e) fun b q => .inl (av_put q)
    refine wpAny_bind (wpAny_holding (wpAny_assign_Name (fm_store ok F₂ ht.2 h₂' fun s₃ F₃ C₃ => wpAny_pure (hQ s₃ ?_ fun q => q.elim))))
    exact (Stp.ext F x₁).trans ((⟨F₂, C₂, fun b q => .inl (mut_put q)⟩ : Stp j.cx τ _ _ _).trans ⟨F₃, C₃, fun b q => .inl (mut_put q)⟩)

theorem Ok.holed {H : Addr → Prop} (ok : Ok j) : Ok { j with hole := H } := ⟨ok.kind, ok.glo, ok.blt, ok.gl, ok.rm⟩

theorem s1_forT {tgt iter : PySem.Expr} {body orelse : List Stmt} {pos : Pos} {ds : List PyData} {P : RF → Sto → Prop} {Pb : Sto → Prop} (Inv : Nat → Sto → Prop) (hi : PI j σ iter tgt ds) (h0 : Inv 0 σ)
    (ht : ∀ d ∈ ds, TgtOk j.env tgt d)
    (hbody : ∀ (H : Addr → Prop) (i : Nat) (d : PyData) (τ : Sto), ds[i]? = some d → Inv i τ → SEt (tokT tgt j.env) { j with hole := H } (bindT tgt d τ) body fun rf τ' => match rf with
      | .next => Inv (i + 1) τ'
      | .cont => Inv (i + 1) τ'
      | .brk => Pb τ'
      | .ret d => P (.ret d) τ')
    (helse : ∀ (τ : Sto), Inv ds.length τ → SE j τ orelse P) (hbrk : ∀ τ, Pb τ → P .next τ)
    (hs : ∀ x, foldedSetIterable iter j.env x = pure x := by intro _; rfl) : S1 j σ (.For tgt iter body orelse pos) P := by
  intro ok s F Q E hQ
  refine wpAny_For (hi ok s F _ _ fun it s₁ s₂ W₀ G St x₁ x₂ I st0 hG hsz₀ => ?_) hs
  have F₁ := F.ext x₁
  -- the loop's own world: data lie off the iterator's places, too
  let Hf : (Addr → Prop) → Addr → Prop := fun W b => j.hole b ∨ W b
  let cf : (Addr → Prop) → Cx := fun W => ({ j with hole := Hf W } : J).cx
  have hbase : ∀ b, ¬ Live s₁.heap b → ¬ Live j.base b := fun b w ⟨o, e⟩ => w ⟨o, F₁.keep b o e⟩
  have start : ∀ (τ : Sto) (s' : Shared) (W : Addr → Prop), FmZ (fun b => avC j.cx τ b ∨ W b) j.cx τ s' → (∀ b, W b → Live s'.heap b) → Fm (cf W) τ s' := fun τ s' W F hW =>
    F.rehole (H := Hf W) (fun b q => q.elim (F.hole b) (hW b)) (fun b q => q.elim (fun q => .inl (.inl q)) fun q => q.elim (fun q => .inl (.inr q)) .inr) fun b q => q
  have leave : ∀ (τ : Sto) (s' : Shared) (W : Addr → Prop), Fm (cf W) τ s' → FmZ (fun b => avC j.cx τ b ∨ W b) j.cx τ s' := fun τ s' W F =>
    F.rehole (H := j.hole) (fun b q => F.hole b (.inl q)) (fun b q => q.elim (fun q => q.elim .inl fun q => .inr (.inl q)) fun q => .inr (.inr q)) fun b q => .inl q
  have leave' : ∀ (τ : Sto) (s' : Shared) (W : Addr → Prop), Fm (cf W) τ s' → Fm j.cx τ s' := fun τ s' W F => (leave τ s' W F).turn (fun b q => .inl (.inl q)) fun _ q => q
  have hl₀ := I.live 0 W₀ s₂ st0 fun b o _ e => x₂.get e
  have F₂ : Fm (cf W₀) σ s₂ := start σ s₂ W₀ ((F₁.turn (Z' := fun b => avC j.cx σ b ∨ W₀ b) (fun b q => q.imp id fun w => ⟨I.dead _ _ _ st0 b w, hbase b (I.dead _ _ _ st0 b w)⟩) fun b q => .inl q).ext x₂) hl₀.1
  have hWc : ∀ b, ¬ Live s₁.heap b → ∀ y, j.env.cells.lookup y ≠ some b := fun b w y e => w (let ⟨ov, o, ho, _⟩ := F₁.cells y b e; ⟨o, ho⟩)
  -- the turns
  let I' : Nat → Shared → Prop := fun n s' => ∃ i τ W, n = ds.length + 1 - i ∧ i ≤ ds.length ∧ Inv i τ ∧ Fm (cf W) τ s' ∧ Chg (mutC j.cx σ) s₁ s' ∧ (∀ b, mutC j.cx τ b → mutC j.cx σ b ∨ ¬ Live s₁.heap b) ∧ St i W s' ∧ (∀ b, W b → ¬ mutC j.cx τ b) ∧ s₁.heap.objs.size ≤ s'.heap.objs.size
  have back : ∀ (rf : RF) (f : Flow) (τ : Sto) (W : Addr → Prop) (s' : Shared), P rf τ → FlowIs (cf W) s' rf f → Fm (cf W) τ s' → Chg (mutC j.cx σ) s₁ s' → (∀ b, mutC j.cx τ b → mutC j.cx σ b ∨ ¬ Live s₁.heap b) → Q f s' := fun rf f τ W s' hp hf Fτ C N =>
    hQ rf f τ s' hp (by cases rf <;> cases f <;> first | exact hf | (cases hf)) ⟨leave' τ s' W Fτ, Chg.extThen x₁ C, fun b q => (N b q).imp id fun h l => h (x₁.live l)⟩
  refine codeAny_forLoop_any I' ?_ (ds.length + 1) ⟨0, σ, W₀, rfl, Nat.zero_le _, h0, F₂, Chg.ext x₂, fun b q => .inl q, st0, fun b w q => I.dead _ _ _ st0 b w (F₁.mutLive q), hsz₀⟩
  rintro n s' ⟨i, τ, W, rfl, hi', hinv, Fτ, C, N, hst, hWτ, hsz'⟩
  have hW : ∀ b, W b → ¬ Live s₁.heap b := I.dead _ _ _ hst
  have hfrz : Frz j.cx σ s₁ s' := fun b o hb e => C.keep b o (fun q => hb (.inl q)) e
  by_cases hlt : i < ds.length
  · have hd : ds[i]? = some ds[i] := List.getElem?_eq_getElem hlt
    refine I.step i W ds[i] s' hd hst hfrz (avC j.cx τ) (fun b q => Fτ.avLive (q.elim .inl fun q => .inr (.inl q))) (fun b q => ?_) (fun b q w => q.elim (hWτ b w) fun q => hW b w (F₁.hole b q)) hsz' _ _ _ fun v s₃ W₃ C₃ hs₃ st₃ hnew₀ hv => ?_
    · rcases q with q | q
      · exact (N b q).imp .inl id
      · exact .inl (.inr q)
    have hnew : ∀ b, W₃ b → W b ∨ ¬ Live s'.heap b := fun b w => (hnew₀ b w).imp id dead_above
    have C₃' : Chg (mutC j.cx σ) s₁ s₃ := ChgG.then C C₃ (fun b w => .inr (hW b w)) fun g q => .inr (hG g q)
    have hlive₃ := I.live _ _ _ st₃ fun b o hb e => C₃'.keep b o (fun q => hb (.inl q)) e
    have hW₃ := I.dead _ _ _ st₃
    have hWτ₃ : ∀ b, W₃ b → ¬ mutC j.cx τ b := fun b w q => (hnew b w).elim (fun w => hWτ b w q) fun l => l (Fτ.mutLive q)
    have Fz : FmZ (fun b => (avC j.cx τ b ∨ W b) ∨ W₃ b) j.cx τ s' := (leave τ s' W Fτ).turn (fun b q => q.elim .inl fun w => (hnew b w).elim (fun w => .inl (.inr w)) fun l => .inr ⟨l, fun ⟨o, e⟩ => l ⟨o, Fτ.keep b o e⟩⟩) fun b q => .inl (.inl q)
    have F₃ : Fm (cf W₃) τ s₃ := start τ s₃ W₃ ((Fz.chg C₃ (fun b w => .inl (.inr w)) hWτ (fun b w => hWc b (hW b w)) fun b h w => absurd (F₁.hole b h) (hW b w)).turn (fun b q => .inl (q.elim (fun q => .inl (.inl q)) .inr)) fun b q => .inl q) hlive₃.1
    refine sized (assignT (j := { j with hole := Hf W₃ }) ok.holed (ht _ (List.getElem_mem hlt)) F₃ (hv.thin fun b q => q.elim (fun q => .inl (.inl q)) fun q => q.elim (fun q => .inl (.inr q)) .inr) fun s₄ S₄ T₄ hs₄ => ?_)
    have st₄ : St (i + 1) W₃ s₄ := I.frame _ _ _ _ st₃ (fun b o w e => S₄.chg.keep b o (hWτ₃ b w) e) fun g q => S₄.chg.gens g (hlive₃.2 g q) id
    have hW₄ : ∀ b, W₃ b → ¬ mutC j.cx (bindT tgt ds[i] τ) b := fun b w q => (S₄.new b q).elim (hWτ₃ b w) fun l => l (hlive₃.1 b w)
    have C₄ : Chg (mutC j.cx σ) s₁ s₄ := ChgG.next C₃' S₄.chg N
    have N₄ : ∀ b, mutC j.cx (bindT tgt ds[i] τ) b → mutC j.cx σ b ∨ ¬ Live s₁.heap b := fun b q => (S₄.new b q).elim (N b) fun l => by
      by_cases hm : mutC j.cx σ b
      · exact .inl hm
      · exact .inr fun ⟨o, e⟩ => l ⟨o, C₃'.keep b o hm e⟩
    refine sized (hbody (Hf W₃) i ds[i] τ hd hinv ok.holed s₄ S₄.fm T₄ _ _ fun rf f τ' s₅ hp hf S₅ hs₅ => ?_)
    have hz₅ : s₁.heap.objs.size ≤ s₅.heap.objs.size := Nat.le_trans hsz' (Nat.le_trans hs₃ (Nat.le_trans hs₄ hs₅))
    have C₅ : Chg (mutC j.cx σ) s₁ s₅ := ChgG.next C₄ S₅.chg N₄
    have N₅ : ∀ b, mutC j.cx τ' b → mutC j.cx σ b ∨ ¬ Live s₁.heap b := fun b q => (S₅.new b q).elim (N₄ b) fun l => by
      by_cases hm : mutC j.cx σ b
      · exact .inl hm
      · exact .inr fun ⟨o, e⟩ => l ⟨o, C₄.keep b o hm e⟩
    have hlive₄ := I.live _ _ _ st₄ fun b o hb e => C₄.keep b o (fun q => hb (.inl q)) e
    have again : Inv (i + 1) τ' → ∃ m, m < ds.length + 1 - i ∧ I' m s₅ := fun hq => ⟨ds.length + 1 - (i + 1), by omega, i + 1, τ', W₃, rfl, hlt, hq, S₅.fm, C₅, N₅,
      I.frame _ _ _ _ st₄ (fun b o w e => S₅.chg.keep b o (hW₄ b w) e) (fun g q => S₅.chg.gens g (hlive₄.2 g q) id), fun b w q => (S₅.new b q).elim (hW₄ b w) fun l => l (hlive₄.1 b w), hz₅⟩
    cases rf with
    | next => cases f <;> first | exact again hp | (cases hf)
    | cont => cases f <;> first | exact again hp | (cases hf)
    | brk => cases f <;> first | exact back .next .next τ' W₃ s₅ (hbrk τ' hp) trivial S₅.fm C₅ N₅ | (cases hf)
    | ret d => cases f <;> first | exact back (.ret d) _ τ' W₃ s₅ hp hf S₅.fm C₅ N₅ | (cases hf)
  · have hin : i = ds.length := by omega
    subst hin
    refine I.stop W s' hst hfrz _ _ fun s₃ C₃ => ?_
    have F₃ : Fm j.cx τ s₃ := ((leave τ s' W Fτ).chg C₃ (fun b w => .inr w) hWτ (fun b w => hWc b (hW b w)) fun b h w => absurd (F₁.hole b h) (hW b w)).turn (fun b q => .inl (.inl q)) fun b q => q
    have C₃' : Chg (mutC j.cx σ) s₁ s₃ := ChgG.then C C₃ (fun b w => .inr (hW b w)) fun g q => .inr (hG g q)
    refine helse τ hinv ok s₃ F₃ _ _ fun rf f τ' s₅ hp hf S₅ => hQ rf f τ' s₅ hp hf ⟨S₅.fm, Chg.extThen x₁ (ChgG.next C₃' S₅.chg N), fun b q => (S₅.new b q).elim (fun h => (N b h).imp id fun h l => h (x₁.live l)) fun l => ?_⟩
    by_cases hm : mutC j.cx σ b
    · exact .inl hm
    · exact .inr fun ⟨o, e⟩ => l ⟨o, C₃'.keep b o hm (x₁.get e)⟩

theorem s1_for {tgt iter : PySem.Expr} {body orelse : List Stmt} {pos : Pos} {ds : List PyData} {P : RF → Sto → Prop} {Pb : Sto → Prop} (Inv : Nat → Sto → Prop) (hi : PI j σ iter tgt ds) (h0 : Inv 0 σ)
    (ht : ∀ d ∈ ds, TgtOk j.env tgt d)
    (hbody : ∀ (H : Addr → Prop) (i : Nat) (d : PyData) (τ : Sto), ds[i]? = some d → Inv i τ → SE { j with hole := H } (bindT tgt d τ) body fun rf τ' => match rf with
      | .next => Inv (i + 1) τ'
      | .cont => Inv (i + 1) τ'
      | .brk => Pb τ'
      | .ret d => P (.ret d) τ')
    (helse : ∀ (τ : Sto), Inv ds.length τ → SE j τ orelse P) (hbrk : ∀ τ, Pb τ → P .next τ)
    (hs : ∀ x, foldedSetIterable iter j.env x = pure x := by intro _; rfl) : S1 j σ (.For tgt iter body orelse pos) P :=
  s1_forT Inv hi h0 ht (fun H i d τ hd hI => (hbody H i d τ hd hI).t) helse hbrk hs
end
end Pm

end
section
open PySem PySem.Calls PyProof.Rows
set_option Elab.async false
set_option linter.unusedVariables false
namespace Pm

section
variable {j : J} {σ τ : Sto}

theorem ev_builtin {x : Str} {pos : Pos} {f : Value} (ok : Ok j) {s : Shared} (F : Fm j.cx σ s) (hx : x ∈ ([("enumerate" : Str), "list", "len", "sum", "range"] : List Str)) (hk : j.env.kindOf x = some .globalImplicit) (hb : bootBuiltins x = some f)
    (hn : x ≠ "__name__") (hd : (x == ("__debug__" : Str)) = false) {Q : Value → Shared → Prop} {E : Value → Shared → Prop} (hQ : Q f s) : wpAny (model j.prog j.w) j.A (eval (.Name x pos) j.env) Q E s :=
  Name_function_global ok.kind hk (loadGlobal_builtin (mg := j.mg) (mb := j.mb) (by rw [ok.glo]; exact ok.gl.g.keeps F.keep) (ok.gl.free x hx) (by rw [ok.blt]; exact ok.gl.b.keeps F.keep) ((ok.gl.blt x hn).trans hb) hQ) hd

/-- a call of a built-in type by written arguments -/
theorem ev_calltype {x : Str} {np pos : Pos} {T : String} {md : Md} {e : PySem.Expr} {es : List PySem.Expr} {ds : List PyData} (ok : Ok j) {s : Shared} (F : Fm j.cx σ s) (h : PEs j σ md (e :: es) ds) (hx : x ∈ ([("enumerate" : Str), "list", "len", "sum", "range"] : List Str))
    (hk : j.env.kindOf x = some .globalImplicit) (hb : bootBuiltins x = some (.type T)) (hn : x ≠ "__name__") (hd : (x == ("__debug__" : Str)) = false)
    (hs : starEach (e :: es) j.env = (false, eval e j.env) :: starEach es j.env) (hp : (backTo pos (starEach es j.env)).any (·.1) = false)
    (he : eval (.Call (.Name x np) (e :: es) [] pos) j.env = (do callWith pos (← eval (.Name x np) j.env) [] (backTo pos (starEach (e :: es) j.env)) (backToKw pos (keywordEach [] j.env))))
    {Q : Value → Shared → Prop} {E : Value → Shared → Prop} (hQ : ∀ vs s₁, Ext s s₁ → s.heap.objs.size ≤ s₁.heap.objs.size → RVs (Zof md j.cx σ s) s₁.heap ds vs → wpAny (model j.prog j.w) j.A (call (.type T) vs) Q E s₁) :
    wpAny (model j.prog j.w) j.A (eval (.Call (.Name x np) (e :: es) [] pos) j.env) Q E s := by
  refine Call_ (ev_builtin ok F hx hk hb hn hd (PyProof.Rows.callWith_type1 (sized (h ok s F pos _ _ fun vs s₁ x₁ hv hz => hQ vs s₁ x₁ hz hv)) hs hp)) he

/-- iterators of lists and tuples give nothing up -/
theorem letGo_plain {prog : Program} {w : World} {A : Around} {E : Value → Shared → Prop} {s : Shared} {tgt : PySem.Expr} {I : Addr} {v : Value} {o : Obj} {n : String} {Q : Unit → Shared → Prop} (ho : s.heap.get? I = some o) (hc : o.cls = .type n)
    (hn : (["enumerate", "zip", "dict_itemiterator", "dict_reverseitemiterator", "odict_iterator", "itertools.zip_longest", "itertools.pairwise"].contains n) = false) (hQ : Q () s) : wpAny (model prog w) A (letOwnedTupleGo tgt (.ref I) v) Q E s := by
  have key : wpAny (model prog w) A (do
      let (.ref r, .ref a) := ((Value.ref I), v) | return
      let o ← load r
      match o.cls, o.data with
      | .type n, .fields vs =>
        if ["enumerate", "zip", "dict_itemiterator", "dict_reverseitemiterator", "odict_iterator", "itertools.zip_longest", "itertools.pairwise"].contains n && vs[0]? == some (rawInt a) then
          rule "for.unpacks-the-owned-tuple"
          updateField r 0 .none
      | _, _ => pure () : Sem Unit) Q E s := by
    cases v with
    | ref T =>
      refine wpAny_bind (wpAny_load ho ?_)
      rw [hc]
      cases hd : o.data with
      | fields vs => simp only [hn, Bool.false_and, Bool.false_eq_true, if_false]; exact wpAny_pure hQ
      | _ => exact wpAny_pure hQ
    | _ => exact wpAny_pure hQ
  unfold letOwnedTupleGo
  cases tgt <;> first | exact key | exact wpAny_pure hQ

theorem Itr.ofWalks {prog : Program} {w : World} {A : Around} {c : Cx} {s₁ : Shared} {I : Addr} {tgt : PySem.Expr} {ds : List PyData} {fp wr : List Addr} {n : Nat} {P : Nat → Value → Prop} {St : Nat → Heap → Prop}
    (Wk : Walks prog w A I fp wr n P St) (hn : n = ds.length) (hsrc : ∀ b ∈ fp, b ∉ wr → ∃ o, s₁.heap.get? b = some o ∧ ¬ avC c σ b) (hwr : ∀ b ∈ wr, ¬ Live s₁.heap b)
    (hlive : ∀ i h, St i h → ∀ b ∈ wr, Live h b)
    (hgo : ∀ i (v : Value) (s : Shared) (Q : Unit → Shared → Prop) (E : Value → Shared → Prop), St i s.heap → Q () s → wpAny (model prog w) A (letOwnedTupleGo tgt (.ref I) v) Q E s)
    (hP : ∀ i d v, ds[i]? = some d → P i v → RV (avC c σ) s₁.heap d v) :
    Itr prog w A c σ s₁ I tgt ds (fun _ => False) (fun i W s => W = (· ∈ wr) ∧ ∀ h' : Heap, (∀ b ∈ wr, ∀ o, s.heap.get? b = some o → h'.get? b = some o) → (∀ b o, ¬ avC c σ b → s₁.heap.get? b = some o → h'.get? b = some o) → St i h') where
  step := fun i W d s hd ⟨hWe, st⟩ hf Z hz hz' _ _ Q N E hQ => by
    subst hWe
    refine sized (Wk.item i s _ _ (by rw [hn]; exact (List.getElem?_eq_some_iff.mp hd).1) (st s.heap (fun _ _ _ e => e) hf) fun v h' tk hPv st' hk hsz => ?_)
    have hf' : ∀ b o, ¬ avC c σ b → s₁.heap.get? b = some o → h'.get? b = some o := fun b o hb e => hk b o (fun q => hwr b q ⟨o, e⟩) (hf b o hb e)
    refine hgo (i + 1) v { s with heap := h', toks := tk } _ _ st' (hQ v _ _ (ChgG.of_heap fun b o hb e => hk b o hb e) hsz ⟨rfl, fun h'' hw hfz => ?_⟩ (fun b q => .inl q) ?_)
    · refine Wk.frame _ _ _ st' fun b hb o e => ?_
      by_cases hbw : b ∈ wr
      · exact hw b hbw o e
      · obtain ⟨o₁, e₁, hav⟩ := hsrc b hb hbw
        have := hf' b o₁ hav e₁
        rw [e] at this; cases this
        exact hfz b o hav e₁
    · exact (hP i d v hd hPv).move (fun b o hb e => hf' b o hb e) fun b q => q.elim (hz' b) fun w => .inr (hwr b w)
  stop := fun W s ⟨hWe, st⟩ hf Q E hQ => by
    subst hWe
    have st' := st s.heap (fun _ _ _ e => e) hf
    rw [← hn] at st'
    exact Wk.done s _ _ st' fun h' tk hk => hQ _ (ChgG.of_heap fun b o hb e => hk b o hb e)
  frame := fun i W s s' ⟨hWe, st⟩ hw hg => ⟨hWe, fun h' hw' hf' => by subst hWe; exact st h' (fun b hb o e => hw' b hb o (hw b o hb e)) hf'⟩
  live := fun i W s ⟨hWe, st⟩ hf => ⟨fun b hb => by subst hWe; exact hlive i _ (st s.heap (fun _ _ _ e => e) hf) b hb, fun g q => q.elim⟩
  dead := fun i W s ⟨hWe, st⟩ b hb => by subst hWe; exact hwr b hb
  self := fun i W s ⟨hWe, st⟩ hf Q E hQ => Wk.self i s _ _ (st s.heap (fun _ _ _ e => e) hf) hQ

theorem dead_ne {h : Heap} {a : Addr} {o : Obj} (e : h.get? a = some o) : a ≠ h.objs.size := Nat.ne_of_lt (Heap.lt_size e)

/-- an iterator made of a list that reads as the data -/
theorem list_itr (ok : Ok j) {s₁ : Shared} {a : Addr} {vs : Array Value} {ds : List PyData} {tgt : PySem.Expr} (hl : s₁.heap.PlainList a vs) (ha : ¬ avC j.cx σ a) (hr : RVs (avC j.cx σ) s₁.heap ds vs.toList) {Q : Value → Shared → Prop} {E : Value → Shared → Prop}
    (hQ : ∀ it s₂ W G St, Ext s₁ s₂ → Itr j.prog j.w j.A j.cx σ s₁ it tgt ds G St → St 0 W s₂ → (∀ g, G g → s₁.gens.size ≤ g) → s₁.heap.objs.size ≤ s₂.heap.objs.size → Q (.ref it) s₂) : wpAny (model j.prog j.w) j.A (pyIter (.ref a)) Q E s₁ := by
  obtain ⟨n, ho⟩ := id hl
  refine wpAny_pyIter_list hl.isList (hQ _ _ (fun b => b ∈ [s₁.heap.objs.size]) _ _ (Ext.push _) (Itr.ofWalks (Walks.list ok.rm.handled s₁.heap.objs.size a (dead_ne ho) vs) (by rw [← Array.length_toList, hr.len]) ?_ ?_ ?_ ?_ ?_) ⟨rfl, ?_⟩ ?_ (by show _ ≤ (s₁.heap.push _).objs.size; rw [Heap.size_push]; exact Nat.le_succ _))
  · intro b hb hnb
    rcases List.mem_cons.mp hb with rfl | hb
    · exact absurd List.mem_cons_self hnb
    · rw [List.mem_singleton.mp hb]; exact ⟨_, ho, ha⟩
  · intro b hb; rw [List.mem_singleton.mp hb]; exact new_dead
  · intro i h st b hb; rw [List.mem_singleton.mp hb]; obtain ⟨⟨o, e, _⟩, _⟩ := st; exact ⟨o, e⟩
  · intro i v s Q E st hq; obtain ⟨⟨o, e, hc, _⟩, _⟩ := st; exact letGo_plain e hc (by decide +kernel) hq
  · intro i d v hd hv; obtain ⟨v', e, h⟩ := hr.get hd; rw [← Array.getElem?_toList] at hv; rw [hv] at e; cases e; exact h
  · intro h' hw hf
    exact ⟨⟨_, hw _ (List.mem_singleton.mpr rfl) _ (Heap.get?_push_size _ rfl), rfl, rfl⟩, ⟨_, hf a _ ha ho, rfl, n, rfl⟩⟩
  · intro g q; exact q.elim

theorem tuple_itr (ok : Ok j) {s₁ : Shared} {a : Addr} {vs : Array Value} {ds : List PyData} {tgt : PySem.Expr} (hl : s₁.heap.IsTuple a vs) (ha : ¬ avC j.cx σ a) (hr : RVs (avC j.cx σ) s₁.heap ds vs.toList) {Q : Value → Shared → Prop} {E : Value → Shared → Prop}
    (hQ : ∀ it s₂ W G St, Ext s₁ s₂ → Itr j.prog j.w j.A j.cx σ s₁ it tgt ds G St → St 0 W s₂ → (∀ g, G g → s₁.gens.size ≤ g) → s₁.heap.objs.size ≤ s₂.heap.objs.size → Q (.ref it) s₂) : wpAny (model j.prog j.w) j.A (pyIter (.ref a)) Q E s₁ := by
  obtain ⟨o, ho, hoc, n, hod⟩ := id hl
  refine wpAny_pyIter_tuple hl (hQ _ _ (fun b => b ∈ [s₁.heap.objs.size]) _ _ (Ext.push _) (Itr.ofWalks (Walks.tuple ok.rm.handled s₁.heap.objs.size a (dead_ne ho) vs) (by rw [← Array.length_toList, hr.len]) ?_ ?_ ?_ ?_ ?_) ⟨rfl, ?_⟩ ?_ (by show _ ≤ (s₁.heap.push _).objs.size; rw [Heap.size_push]; exact Nat.le_succ _))
  · intro b hb hnb
    rcases List.mem_cons.mp hb with rfl | hb
    · exact absurd List.mem_cons_self hnb
    · rw [List.mem_singleton.mp hb]; exact ⟨_, ho, ha⟩
  · intro b hb; rw [List.mem_singleton.mp hb]; exact new_dead
  · intro i h st b hb; rw [List.mem_singleton.mp hb]; obtain ⟨⟨o, e, _⟩, _⟩ := st; exact ⟨o, e⟩
  · intro i v s Q E st hq; obtain ⟨⟨o, e, hc, _⟩, _⟩ := st; exact letGo_plain e hc (by decide +kernel) hq
  · intro i d v hd hv; obtain ⟨v', e, h⟩ := hr.get hd; rw [← Array.getElem?_toList] at hv; rw [hv] at e; cases e; exact h
  · intro h' hw hf
    exact ⟨⟨_, hw _ (List.mem_singleton.mpr rfl) _ (Heap.get?_push_size _ rfl), rfl, rfl⟩, ⟨o, hf a _ ha ho, hoc, n, hod⟩⟩
  · intro g q; exact q.elim

theorem PE.frz {md : Md} {e : PySem.Expr} {d : PyData} (h : PE j σ md e d) (hmd : md ≠ .trans) : PE j σ .frozen e d := by
  cases md with
  | fresh => exact h.up .frozen
  | frozen => exact h
  | trans => exact absurd rfl hmd

theorem pi_list {md : Md} {e tgt : PySem.Expr} {ds : List PyData} (h : PE j σ md e (.list ds)) (hmd : md ≠ .trans := by decide) : PI j σ e tgt ds := fun ok s F Q E hQ =>
  (h.frz hmd).at ok F (Chg.refl s) fun v s₁ x₁ hv => by
    obtain ⟨a, vs, rfl, ha, hl, hr⟩ := RV.list_iff.mp hv
    exact list_itr ok hl ha hr fun it s₂ W G St x₂ I st hG hs => hQ it s₁ s₂ W G St x₁ x₂ I st hG hs
theorem pi_tuple {md : Md} {e tgt : PySem.Expr} {ds : List PyData} (h : PE j σ md e (.tuple ds)) (hmd : md ≠ .trans := by decide) : PI j σ e tgt ds := fun ok s F Q E hQ =>
  (h.frz hmd).at ok F (Chg.refl s) fun v s₁ x₁ hv => by
    obtain ⟨a, vs, rfl, ha, hl, hr⟩ := RV.tuple_iff.mp hv
    exact tuple_itr ok hl ha hr fun it s₂ W G St x₂ I st hG hs => hQ it s₁ s₂ W G St x₁ x₂ I st hG hs

/-- the ints of a range -/
def rng (a c : Int) (n : Nat) : List PyData := (List.range n).map fun (i : Nat) => PyData.int (a + (i : Int) * c)
theorem rng_get {a c : Int} {n i : Nat} {d : PyData} (h : (rng a c n)[i]? = some d) : i < n ∧ d = .int (a + (i : Int) * c) := by
  unfold rng at h
  rw [List.getElem?_map] at h
  by_cases q : i < n
  · rw [List.getElem?_range q] at h; cases h; exact ⟨q, rfl⟩
  · rw [List.getElem?_eq_none (by simpa using q)] at h; cases h

theorem range_itr (ok : Ok j) {s₁ : Shared} {r : Addr} {a b c : Int} {t u v : Tok} {n : Nat} {tgt : PySem.Expr} (hr : IsRange s₁.heap r a b c t u v) (hsm : Builtin.Range.small a b c = true) (hn : Builtin.Range.rangeSize a b c = (n : Int)) {Q : Value → Shared → Prop} {E : Value → Shared → Prop}
    (hQ : ∀ it s₂ W G St, Ext s₁ s₂ → Itr j.prog j.w j.A j.cx σ s₁ it tgt (rng a c n) G St → St 0 W s₂ → (∀ g, G g → s₁.gens.size ≤ g) → s₁.heap.objs.size ≤ s₂.heap.objs.size → Q (.ref it) s₂) : wpAny (model j.prog j.w) j.A (pyIter (.ref r)) Q E s₁ := by
  refine wpAny_pyIter_range hr hsm (hQ _ _ (fun b => b ∈ [s₁.heap.objs.size]) _ _ (Ext.push _) (Itr.ofWalks (Walks.range ok.rm.handled s₁.heap.objs.size a c n) (by simp [rng]) ?_ ?_ ?_ ?_ ?_) ⟨rfl, ?_⟩ ?_ (by show _ ≤ (s₁.heap.push _).objs.size; rw [Heap.size_push]; exact Nat.le_succ _))
  · intro b hb hnb; exact absurd hb hnb
  · intro b hb; rw [List.mem_singleton.mp hb]; exact new_dead
  · intro i h st b hb; rw [List.mem_singleton.mp hb]; exact ⟨_, st⟩
  · intro i v s Q E st hq; exact letGo_plain st rfl (by decide +kernel) hq
  · intro i d v hd hv; obtain ⟨_, rfl⟩ := rng_get hd; obtain ⟨t, rfl⟩ := hv; exact RV.int_iff.mpr ⟨t, rfl⟩
  · intro h' hw hf
    have := hw s₁.heap.objs.size (List.mem_singleton.mpr rfl) _ (Heap.get?_push_size _ rfl)
    rw [hn] at this
    show IsRangeIter h' _ (a + ((0 : Nat) : Int) * c) ((n : Int) - ((0 : Nat) : Int)) c
    rw [show a + ((0 : Nat) : Int) * c = a by simp, show (n : Int) - ((0 : Nat) : Int) = n by simp]
    exact this
  · intro g q; exact q.elim

theorem boot_range : bootBuiltins "range" = some (.type "range") := by decide +kernel
theorem boot_enumerate : bootBuiltins "enumerate" = some (.type "enumerate") := by decide +kernel
theorem boot_list : bootBuiltins "list" = some (.type "list") := by decide +kernel
theorem boot_sum : bootBuiltins "sum" = some (.builtin "sum") := by decide +kernel

theorem int_arg {Z : Addr → Prop} {h : Heap} {i : Int} {ds : List PyData} {vs : List Value} (x : RVs Z h (.int i :: ds) vs) : ∃ t r, vs = .int i t :: r ∧ RVs Z h ds r := by
  obtain ⟨v, r, e, hv, hr⟩ := RVs.cons_iff.mp x
  obtain ⟨t, rfl⟩ := RV.int_iff.mp hv
  exact ⟨t, r, e, hr⟩

theorem pi_range1 {np pos : Pos} {md : Md} {e tgt : PySem.Expr} {n : Nat} (h : PE j σ md e (.int n)) (hz : (n : Int) < 2 ^ 62 := by decide) (hk : j.env.kindOf "range" = some .globalImplicit := by rfl)
    (hs : starEach [e] j.env = (false, eval e j.env) :: starEach [] j.env := by rfl) (he : eval (.Call (.Name "range" np) [e] [] pos) j.env = (do callWith pos (← eval (.Name "range" np) j.env) [] (backTo pos (starEach [e] j.env)) (backToKw pos (keywordEach [] j.env))) := by rfl) :
    PI j σ (.Call (.Name "range" np) [e] [] pos) tgt (rng 0 1 n) := fun ok s F Q E hQ =>
  ev_calltype ok F (pes_cons h pes_nil hs) (by simp) hk boot_range (by decide) (by decide) hs rfl he fun vs s₁ x₁ _ hv => by
    obtain ⟨t, r, rfl, hr⟩ := int_arg hv
    have := RVs.nil_iff.mp hr; subst this
    refine call_range_1 (range_itr (n := n) ok (IsRange.new ..) (small_one (by decide) (by decide) (by omega) hz) (by rw [rangeSize_one]; split <;> omega) fun it s₂ W G St x₂ I st hG hs => hQ it _ s₂ W G St (x₁.thenExt (Ext.heap fun _ _ e => Heap.get?_push_of_some _ e)) x₂ I st hG hs)
theorem pi_range2 {np pos : Pos} {md : Md} {e₁ e₂ tgt : PySem.Expr} {a b : Int} {n : Nat} (h₁ : PE j σ md e₁ (.int a)) (h₂ : PE j σ md e₂ (.int b)) (hn : b - a = n) (ha : -(2 ^ 62) ≤ a ∧ a < 2 ^ 62 ∧ -(2 ^ 62) ≤ b ∧ b < 2 ^ 62 := by decide) (hk : j.env.kindOf "range" = some .globalImplicit := by rfl)
    (hs : starEach [e₁, e₂] j.env = (false, eval e₁ j.env) :: starEach [e₂] j.env := by rfl) (hs2 : starEach [e₂] j.env = (false, eval e₂ j.env) :: starEach [] j.env := by rfl)
    (he : eval (.Call (.Name "range" np) [e₁, e₂] [] pos) j.env = (do callWith pos (← eval (.Name "range" np) j.env) [] (backTo pos (starEach [e₁, e₂] j.env)) (backToKw pos (keywordEach [] j.env))) := by rfl) :
    PI j σ (.Call (.Name "range" np) [e₁, e₂] [] pos) tgt (rng a 1 n) := fun ok s F Q E hQ =>
  ev_calltype ok F (pes_cons h₁ (pes_cons h₂ pes_nil hs2) hs) (by simp) hk boot_range (by decide) (by decide) hs (by rw [hs2]; rfl) he fun vs s₁ x₁ _ hv => by
    obtain ⟨t, r, rfl, hr⟩ := int_arg hv
    obtain ⟨u, r', rfl, hr'⟩ := int_arg hr
    have := RVs.nil_iff.mp hr'; subst this
    refine call_range_2 (range_itr (n := n) ok (IsRange.new ..) (small_one ha.1 ha.2.1 ha.2.2.1 ha.2.2.2) (by rw [rangeSize_one]; split <;> omega) fun it s₂ W G St x₂ I st hG hs => hQ it _ s₂ W G St (x₁.thenExt (Ext.heap fun _ _ e => Heap.get?_push_of_some _ e)) x₂ I st hG hs)
end
end Pm

end
section
open PySem PySem.Calls PyProof.Rows
open AutoSeq1 (wpAny_loadPart')
set_option Elab.async false
set_option linter.unusedVariables false
set_option maxRecDepth 100000
namespace Pm

theorem meets_enum_tuple (l : Addr) (items : Array Value) (o : Obj) (n : Nat) (hoc : o.cls = .type "tuple") (hod : o.data = .seq items n) :
    Meets (Builtin.«enumerate.__new__» ⟨[.type "enumerate", .ref l], []⟩) (fun _ R s => s.heap.get? l = some o ∧
      R (.ok (.ret (.ref (s.heap.push { cls := .type "tuple_iterator", data := .fields #[.ref l, .int 0 0] }).objs.size)))
        { s with heap := (s.heap.push { cls := .type "tuple_iterator", data := .fields #[.ref l, .int 0 0] }).push { cls := .type "enumerate", data := .fields #[.none, .bool false, .ref s.heap.objs.size, rawInt 0, .none, .none] } }) :=
  .of_wp fun prog w A R s h => by
    obtain ⟨hp, g, d, tk, os⟩ := s; obtain ⟨hl, h⟩ := h
    have hsub := sub_enumerate
    have hL : Heap.IsTuple (Shared.heap ⟨hp, g, d, tk, os⟩) l items := ⟨_, hl, hoc, n, hod⟩
    wp_walk using wpAny_loadPart' hl
    refine wpAny_stack_any fun st => wpAny_pure ?_
    split
    · rename_i c _ _ _ _ _
      cases (c == Value.type "enumerate")
      · wp_walk using wpAny_loadPart' hl, wpAny_pyIter_tuple hL
        exact ⟨_, rfl, h⟩
      · wp_walk using wpAny_loadPart' hl, wpAny_pyIter_tuple hL
        exact ⟨_, rfl, h⟩
    · wp_walk using wpAny_loadPart' hl, wpAny_pyIter_tuple hL
      exact ⟨_, rfl, h⟩

section
variable {prog : Program} {w : World} {A : Around} {E : Value → Shared → Prop} {s : Shared}

theorem call_enum_tuple {l : Addr} {items : Array Value} {Q : Value → Shared → Prop} (hL : s.heap.IsTuple l items)
    (h : ∀ h', IsEnum h' (s.heap.objs.size + 1) s.heap.objs.size 0 .none → h'.IsTupleIter s.heap.objs.size l 0 → h'.objs.size = s.heap.objs.size + 2 →
      (∀ b o, s.heap.get? b = some o → h'.get? b = some o) → Q (.ref (s.heap.objs.size + 1)) { s with heap := h' }) :
    wpAny (model prog w) A (call (.type "enumerate") [.ref l]) Q E s := by
  obtain ⟨o, hl, hc, n, hd⟩ := hL
  refine callType_new F.called_enumerate (by decide) (F.typeCall_enumerate_1 _) (F.newCall_enumerate_1 _) (fun obj => F.args_object_init_2 obj _) F.entry_enumerate_new
    (meets_enum_tuple l items o n hc hd) ⟨hl, ?_⟩
  have hz : (s.heap.push { cls := .type "tuple_iterator", data := .fields #[.ref l, .int 0 0] }).objs.size = s.heap.objs.size + 1 := Heap.size_push ..
  show _ ∧ _
  rw [hz]
  have he : IsEnum ((s.heap.push { cls := .type "tuple_iterator", data := .fields #[.ref l, .int 0 0] }).push
      { cls := .type "enumerate", data := .fields #[.none, .bool false, .ref s.heap.objs.size, rawInt 0, .none, .none] }) (s.heap.objs.size + 1) s.heap.objs.size 0 .none := by
    have := Heap.get?_push_size (s.heap.push { cls := .type "tuple_iterator", data := .fields #[.ref l, .int 0 0] })
      (o := { cls := .type "enumerate", data := .fields #[.none, .bool false, .ref s.heap.objs.size, rawInt 0, .none, .none] }) rfl
    rw [hz] at this; exact this
  refine ⟨⟨_, he, rfl⟩, h _ he ⟨_, Heap.get?_push_of_some _ (Heap.get?_push_size _ rfl), rfl, rfl⟩ (by rw [Heap.size_push, hz]) fun b o x => Heap.get?_push_of_some _ (Heap.get?_push_of_some _ x)⟩

theorem nextOf_tuple_item {it l : Addr} {i : Nat} {items} {x : Value} {Q : Value → Shared → Prop} (hit : s.heap.IsTupleIter it l i)
    (hl : s.heap.IsTuple l items) (hx : items[i]? = some x)
    (hQ : ∀ h', h'.IsTupleIter it l (i + 1) → Heap.SameBut it s.heap h' → Q x { s with heap := h' }) :
    wpAny (model prog w) A (Builtin.SmallTypes.nextOf (.ref it)) Q E s := by
  obtain ⟨o, ho, hc, hd⟩ := id hit
  obtain ⟨ol, hol, _, nl, hdl⟩ := hl
  unfold Builtin.SmallTypes.nextOf
  refine wpAny_bind (wpAny_callSpecial?_slot (name := Str.ofString "__next__") hit.typeIs F.slot_tuple_iterator_next
    (wpAny_call_entry F.slot_tuple_iterator_next hit.typeIs F.entry_tuple_iterator_next ?_ (F.args_tuple_iterator_next_1 _)))
  show wpAny _ _ (field (.ref it) 0 >>= _) _ _ s
  refine wpAny_bind (wpAny_field ho hd (x := .ref l) rfl ?_)
  show wpAny _ _ (if (Value.ref l == Value.none) = true then _ else _) _ _ s
  rw [if_neg (show ¬ ((Value.ref l == Value.none) = true) from Bool.false_ne_true)]
  show wpAny _ _ (field (.ref it) 1 >>= _) _ _ s
  refine wpAny_bind (wpAny_field ho hd (x := .int i 0) rfl ?_)
  show wpAny _ _ (seqItems? (.ref l) >>= _) _ _ s
  refine wpAny_bind (wpAny_seqItems hol hdl ?_)
  simp only [Int.toNat_natCast, hx]
  refine wpAny_bind (wpAny_setField ho hd (by simp) (wpAny_pure ⟨x, rfl, wpAny_pure (hQ _ ?_ (Heap.SameBut.update ..))⟩))
  exact ⟨_, Heap.get?_update_self _ ho (Obj.isFreed_of_fields (Obj.data_mapFields hd _)), (Obj.cls_mapFields ..).trans hc, by
    rw [Obj.data_mapFields hd]; simp [rawInt]⟩

theorem nextOf_tuple_end {it l : Addr} {i : Nat} {items} {Q : Value → Shared → Prop} (hh : A.handled = none)
    (hit : s.heap.IsTupleIter it l i) (hl : s.heap.IsTuple l items) (hx : items[i]? = none)
    (hE : ∀ h' e, Heap.ExtBut it s.heap h' → (∃ o, h'.get? e = some o ∧ o.cls = .type "StopIteration") → E (.ref e) { s with heap := h' }) :
    wpAny (model prog w) A (Builtin.SmallTypes.nextOf (.ref it)) Q E s := by
  obtain ⟨o, ho, hc, hd⟩ := id hit
  obtain ⟨ol, hol, _, nl, hdl⟩ := hl
  unfold Builtin.SmallTypes.nextOf
  refine wpAny_bind (wpAny_callSpecial?_slot (name := Str.ofString "__next__") hit.typeIs F.slot_tuple_iterator_next
    (wpAny_call_entry F.slot_tuple_iterator_next hit.typeIs F.entry_tuple_iterator_next ?_ (F.args_tuple_iterator_next_1 _)))
  show wpAny _ _ (field (.ref it) 0 >>= _) _ _ s
  refine wpAny_bind (wpAny_field ho hd (x := .ref l) rfl ?_)
  show wpAny _ _ (if (Value.ref l == Value.none) = true then _ else _) _ _ s
  rw [if_neg (show ¬ ((Value.ref l == Value.none) = true) from Bool.false_ne_true)]
  show wpAny _ _ (field (.ref it) 1 >>= _) _ _ s
  refine wpAny_bind (wpAny_field ho hd (x := .int i 0) rfl ?_)
  show wpAny _ _ (seqItems? (.ref l) >>= _) _ _ s
  refine wpAny_bind (wpAny_seqItems hol hdl ?_)
  simp only [Int.toNat_natCast, hx]
  refine wpAny_bind (wpAny_rule (wpAny_bind (wpAny_setField ho hd (by simp) ?_)))
  show wpAny _ _ (newExc (.type "StopIteration") [] >>= _) _ _ _
  refine wpAny_bind ?_
  simp only [newExc, newTuple]
  refine wpAny_bind (wpAny_newObj_type ?_ (by size_fits))
  refine wpAny_bind (m := firstArgMember _ _) (wpAny_of_eq (a := Value.none) (by first | rfl | (simp only [firstArgMember]; rfl)) ?_)
  refine wpAny_newObj_type ?_ (by size_fits)
  simp only [raiseNew]
  refine wpAny_bind (wpAny_handled ?_)
  first | rw [show A.in1.handled = none from hh] | rw [hh]
  refine wpAny_bind (wpAny_pure (wpAny_throw ?_))
  exact hE _ _ (((Heap.SameBut.update ..).extBut.push _).push _) ⟨_, Heap.get?_push_size _ rfl, rfl⟩
end

theorem draws_tuple {prog : Program} {w : World} {A : Around} (hh : A.handled = none) (it l : Addr) (hne : l ≠ it) (items : Array Value) :
    Draws prog w A it [it, l] items.size (fun i v => items[i]? = some v) (fun i h => h.IsTupleIter it l i ∧ h.IsTuple l items) where
  live := fun _ _ st => let ⟨o, ho, _⟩ := st.1; ⟨o, ho⟩
  frame := fun _ _ _ st hk => ⟨st.1.at fun o e => hk it (by simp) o e, st.2.at fun o e => hk l (by simp) o e⟩
  item := fun i s Q E hi st hQ => by
    refine nextOf_tuple_item st.1 st.2 (x := items[i]) (by simp [hi]) fun h' hit' hs' => ?_
    exact hQ _ h' s.toks (by simp [hi]) ⟨hit', st.2.extBut hs'.extBut hne⟩ hs'
  done := fun s Q E st hE => nextOf_tuple_end hh st.1 st.2 (by simp) hE

section
variable {j : J} {σ τ : Sto}

theorem Itr.ofWalksT {prog : Program} {w : World} {A : Around} {c : Cx} {s₁ : Shared} {I : Addr} {elts : List PySem.Expr} {k : Nat} {tp : Pos} {ds : List PyData} {fp wr : List Addr} {n : Nat} {P : Nat → Array Value → Prop} {St : Nat → Heap → Prop} {Mid : Nat → Addr → Heap → Prop}
    (Wk : WalksT prog w A I fp wr n P St Mid) (hn : n = ds.length) (hsrc : ∀ b ∈ fp, b ∉ wr → ∃ o, s₁.heap.get? b = some o ∧ ¬ avC c σ b) (hwr : ∀ b ∈ wr, ¬ Live s₁.heap b)
    (hlive : ∀ i h, St i h → ∀ b ∈ wr, Live h b)
    (hP : ∀ i d vals, ds[i]? = some d → P i vals → ∃ xs, d = .tuple xs ∧ RVs (avC c σ) s₁.heap xs vals.toList) :
    Itr prog w A c σ s₁ I (.Tuple elts k tp) ds (fun _ => False) (fun i W s => W = (· ∈ wr) ∧ ∀ h' : Heap, (∀ b ∈ wr, ∀ o, s.heap.get? b = some o → h'.get? b = some o) → (∀ b o, ¬ avC c σ b → s₁.heap.get? b = some o → h'.get? b = some o) → St i h') where
  step := fun i W d s hd ⟨hWe, st⟩ hf Z hz hz' _ _ Q N E hQ => by
    subst hWe
    refine sized (Wk.item i s _ _ (by rw [hn]; exact (List.getElem?_eq_some_iff.mp hd).1) (st s.heap (fun _ _ _ e => e) hf) fun T vals h' tk hPv hTs hT hM hk hsz₁ => ?_)
    have hf' : ∀ b o, ¬ avC c σ b → s₁.heap.get? b = some o → h'.get? b = some o := fun b o hb e => hk b o (fun q => hwr b q ⟨o, e⟩) (hf b o hb e)
    have hTw := Wk.apart _ _ _ hM
    refine sized (Wk.go elts k tp i T { s with heap := h', toks := tk } _ _ hM fun h₂ st' hk₂ hsz₂ => ?_)
    have hf₂ : ∀ b o, ¬ avC c σ b → s₁.heap.get? b = some o → h₂.get? b = some o := fun b o hb e => hk₂ b o (fun q => hwr b q ⟨o, e⟩) (hf' b o hb e)
    refine hQ (.ref T) _ _ (ChgG.of_heap fun b o hb e => hk₂ b o hb (hk b o hb e)) (Nat.le_trans hsz₁ hsz₂) ⟨rfl, fun h'' hw hfz => ?_⟩ (fun b q => .inl q) ?_
    · refine Wk.frame _ _ _ st' fun b hb o e => ?_
      by_cases hbw : b ∈ wr
      · exact hw b hbw o e
      · obtain ⟨o₁, e₁, hav⟩ := hsrc b hb hbw
        have := hf₂ b o₁ hav e₁
        rw [e] at this; cases this
        exact hfz b o hav e₁
    · obtain ⟨xs, rfl, hr⟩ := hP i d vals hd hPv
      refine RV.tuple_iff.mpr ⟨T, vals, rfl, fun q => q.elim (fun q => ?_) fun q => hTw q, ?_, hr.move (fun b o hb e => hf₂ b o hb e) fun b q => q.elim (hz' b) fun w => .inr (hwr b w)⟩
      · obtain ⟨o, e⟩ := hz T q; exact absurd (Heap.lt_size e) (Nat.not_lt.mpr hTs)
      · obtain ⟨o, e, hc, hd⟩ := hT; exact ⟨o, hk₂ T o hTw e, hc, hd⟩
  stop := fun W s ⟨hWe, st⟩ hf Q E hQ => by
    subst hWe
    have st' := st s.heap (fun _ _ _ e => e) hf
    rw [← hn] at st'
    exact Wk.done s _ _ st' fun h' tk hk => hQ _ (ChgG.of_heap fun b o hb e => hk b o hb e)
  frame := fun i W s s' ⟨hWe, st⟩ hw hg => ⟨hWe, fun h' hw' hf' => by subst hWe; exact st h' (fun b hb o e => hw' b hb o (hw b o hb e)) hf'⟩
  live := fun i W s ⟨hWe, st⟩ hf => ⟨fun b hb => by subst hWe; exact hlive i _ (st s.heap (fun _ _ _ e => e) hf) b hb, fun g q => q.elim⟩
  dead := fun i W s ⟨hWe, st⟩ b hb => by subst hWe; exact hwr b hb
  self := fun i W s ⟨hWe, st⟩ hf Q E hQ => Wk.self i s _ _ (st s.heap (fun _ _ _ e => e) hf) hQ

/-- what enumerate hands on -/
def enumD (ds : List PyData) : List PyData := (List.range ds.length).map fun (i : Nat) => PyData.tuple [.int (i : Int), ds.getD i .none]
theorem enumD_get {ds : List PyData} {i : Nat} {d : PyData} (h : (enumD ds)[i]? = some d) : ∃ x, ds[i]? = some x ∧ d = .tuple [.int i, x] := by
  unfold enumD at h
  rw [List.getElem?_map] at h
  by_cases q : i < ds.length
  · rw [List.getElem?_range q] at h; cases h; exact ⟨ds[i], List.getElem?_eq_getElem q, by show PyData.tuple [.int i, ds.getD i .none] = _; rw [List.getD_eq_getElem?_getD, List.getElem?_eq_getElem q]; rfl⟩
  · rw [List.getElem?_eq_none (by simpa using q)] at h; cases h

theorem pi_enum {np pos tp : Pos} {md : Md} {e : PySem.Expr} {elts : List PySem.Expr} {k : Nat} {ds : List PyData} (h : PE j σ md e (.tuple ds)) (hmd : md ≠ .trans := by decide) (hk : j.env.kindOf "enumerate" = some .globalImplicit := by rfl)
    (hs : starEach [e] j.env = (false, eval e j.env) :: starEach [] j.env := by rfl) (he : eval (.Call (.Name "enumerate" np) [e] [] pos) j.env = (do callWith pos (← eval (.Name "enumerate" np) j.env) [] (backTo pos (starEach [e] j.env)) (backToKw pos (keywordEach [] j.env))) := by rfl) :
    PI j σ (.Call (.Name "enumerate" np) [e] [] pos) (.Tuple elts k tp) (enumD ds) := fun ok s F Q E hQ =>
  ev_calltype ok F (pes_cons (h.frz hmd) pes_nil hs) (by simp) hk boot_enumerate (by decide) (by decide) hs rfl he fun vs s₁ x₁ _ hvs => by
    obtain ⟨v, r, rfl, hv, hnil⟩ := RVs.cons_iff.mp hvs
    have := RVs.nil_iff.mp hnil; subst this
    obtain ⟨a, vs, rfl, ha, hl, hr⟩ := RV.tuple_iff.mp hv
    obtain ⟨o, ho, hoc, n, hod⟩ := id hl
    refine call_enum_tuple hl fun h' hE hI hsz hkp => ?_
    have hlt : a ≠ s₁.heap.objs.size := dead_ne ho
    have hlt' : a < s₁.heap.objs.size := Heap.lt_size ho
    refine wpAny_pyIter_enum hE ?_
    have hdead : ∀ b ∈ [s₁.heap.objs.size + 1, s₁.heap.objs.size], ¬ Live s₁.heap b := fun b hb ⟨o, e⟩ => by
      have := Heap.lt_size e
      rcases List.mem_cons.mp hb with rfl | hb
      · exact Nat.lt_irrefl _ (Nat.lt_trans (Nat.lt_succ_self _) this)
      · rw [List.mem_singleton.mp hb] at this; exact Nat.lt_irrefl _ this
    have hne1 : s₁.heap.objs.size + 1 ≠ s₁.heap.objs.size := Nat.succ_ne_self _
    refine hQ _ s₁ { s₁ with heap := h' } (fun b => b ∈ [s₁.heap.objs.size + 1, s₁.heap.objs.size]) _ _ x₁ (Ext.heap hkp) (Itr.ofWalksT (s₁ := s₁) (WalksT.enumerateD (draws_tuple (A := j.A.in1) ok.rm.handled s₁.heap.objs.size a hlt vs) (s₁.heap.objs.size + 1) hne1
        (by intro hm; rcases List.mem_cons.mp hm with q | q; exact hne1 q; have := List.mem_singleton.mp q; rw [← this] at hlt'; exact Nat.lt_irrefl _ (Nat.lt_trans (Nat.lt_succ_self _) hlt')) (by simp)) ?_ ?_ hdead ?_ ?_) ⟨rfl, ?_⟩ (fun g q => q.elim) (by show _ ≤ h'.objs.size; rw [hsz]; exact Nat.le_add_right _ _)
    · unfold enumD; rw [← Array.length_toList, hr.len]; simp
    · intro b hb hnb
      rcases List.mem_cons.mp hb with rfl | hb
      · exact absurd (by simp) hnb
      · rcases List.mem_cons.mp hb with rfl | hb
        · exact absurd (by simp) hnb
        · rw [List.mem_singleton.mp hb]; exact ⟨o, ho, ha⟩
    · rintro i h ⟨⟨old, hE'⟩, ⟨o', e', _⟩, _⟩ b hb
      rcases List.mem_cons.mp hb with rfl | hb
      · exact ⟨_, hE'⟩
      · rw [List.mem_singleton.mp hb]; exact ⟨o', e'⟩
    · rintro i d vals hd ⟨t, x, hx, rfl⟩
      obtain ⟨y, hy, rfl⟩ := enumD_get hd
      obtain ⟨v', e', hv'⟩ := hr.get hy
      rw [← Array.getElem?_toList] at hx
      rw [hx] at e'; cases e'
      exact ⟨_, rfl, .cons (RV.int_iff.mpr ⟨t, rfl⟩) (.cons hv' .nil)⟩
    · intro h'' hw hf
      exact ⟨⟨.none, hw _ (by simp) _ hE⟩, ⟨let ⟨o', e', r⟩ := hI; ⟨o', hw _ (by simp) _ e', r⟩, ⟨o, hf a o ha ho, hoc, n, hod⟩⟩⟩
end
end Pm

end
section
open PySem PySem.Calls PyProof.Rows
set_option Elab.async false
set_option linter.unusedVariables false
namespace Pm

section
variable {prog : Program} {w : World} {A : Around} {R : Result → Shared → Prop} {s : Shared}
theorem compLoop_any {elt target iter : PySem.Expr} {ifs : List PySem.Expr} {scope : Scope} {pos : Pos} {it acc : Value} {env : Env} (I : Nat → Shared → Prop)
    (turn : ∀ n s, I n s → wpAny (model prog w) A (pyNext it) (fun r s₁ => match r with
      | none => R (.ok .next) s₁
      | some v => wpAny (model prog w) A (letOwnedTupleGo target it v) (fun _ s₁' => wpAny (model prog w) A (assign target env v) (fun _ s₂ =>
          wpAny (model prog w) A (forIn ifs true fun c r => if r = true then do let ok ← isTrue c env (eval c env); pure (ForInStep.yield ok) else pure (ForInStep.yield r)) (fun ok s₃ =>
            if ok = true then wpAny (model prog w) A (eval elt env) (fun x s₄ =>
              wpAny (model prog w) A (call (.builtin "list.append") [acc, x]) (fun _ s₅ => ∃ m, m < n ∧ I m s₅) (notedBy (model prog w) A env fun e s' => R (.error e) s') s₄) (notedBy (model prog w) A env fun e s' => R (.error e) s') s₃
            else ∃ m, m < n ∧ I m s₃) (notedBy (model prog w) A env fun e s' => R (.error e) s') s₂) (notedBy (model prog w) A env fun e s' => R (.error e) s') s₁') (notedBy (model prog w) A env fun e s' => R (.error e) s') s₁) (notedBy (model prog w) A env fun e s' => R (.error e) s') s)
    (n : Nat) (h : I n s) : codeAny (model prog w) A (.compLoop (.ListComp elt [⟨target, iter, ifs, 0⟩] scope pos) 0 it acc env) R s := by
  refine codeAny_loop rfl I (fun n s hI => ?_) n h
  show wpAny _ A ((compTurn (.ListComp elt [⟨target, iter, ifs, 0⟩] scope pos) 0 it acc env).onRaise (fun x => do noteFrame x env; theTreesLotGoes x)) _ _ s
  refine wpAny_noted ?_
  rw [compTurn_list]
  refine wpAny_bind (wpAny_standAt (wpAny_bind (wpAny_mono (turn n s hI) (fun r s₁ h₁ => ?_) fun _ _ h' => h')))
  cases r with
  | none => exact wpAny_pure h₁
  | some v =>
    refine wpAny_bind (wpAny_mono h₁ (fun _ s₁' h₁' => ?_) fun _ _ h' => h')
    refine wpAny_bind (wpAny_mono h₁' (fun _ s₂ h₂ => wpAny_bind (wpAny_mono h₂ (fun ok s₃ h₃ => ?_) fun _ _ h' => h')) fun _ _ h' => h')
    cases ok with
    | false => exact wpAny_pure ⟨rfl, h₃⟩
    | true =>
      exact wpAny_bind (wpAny_bind (wpAny_mono h₃ (fun x s₄ h₄ => wpAny_bind (wpAny_mono h₄ (fun _ s₅ h₅ => wpAny_pure (wpAny_pure ⟨rfl, h₅⟩)) fun _ _ h' => h')) fun _ _ h' => h'))
end

/-- the cells that a block closes over -/
def closeL (env : Env) : List (Str × NameKind) → List (Str × Addr) → List (Str × Addr)
  | [], acc => acc
  | (n, k) :: r, acc => if k == .free then closeL env r ((n, (env.cells.lookup n).getD 0) :: acc) else closeL env r acc

theorem closeGo (env : Env) : ∀ (names : List (Str × NameKind)) (acc : List (Str × Addr)), (names.all fun p => p.2 != .free || (env.cells.lookup p.1).isSome) = true →
    (forIn names acc fun (x : Str × NameKind) cs => if (x.2 == NameKind.free) = true then do let a ← cellOf env x.1; pure (ForInStep.yield ((x.1, a) :: cs)) else pure (ForInStep.yield cs) : Sem _) = pure (closeL env names acc)
  | [], acc, _ => rfl
  | (n, k) :: r, acc, h => by
    rw [List.all_cons, Bool.and_eq_true] at h
    rw [List.forIn_cons]
    cases hk : k == NameKind.free with
    | false => simp only [hk, Bool.false_eq_true, if_false, pure_bind, closeL]; exact closeGo env r acc h.2
    | true =>
      have hk' := beq_iff_eq.mp hk
      subst hk'
      have h1 : (env.cells.lookup n).isSome = true := by simpa using h.1
      obtain ⟨a, ha⟩ := Option.isSome_iff_exists.mp h1
      have hc : cellOf env n = pure a := by unfold cellOf; rw [ha]
      simp only [hk, if_true, hc, pure_bind, closeL, ha, Option.getD_some]
      exact closeGo env r _ h.2
theorem closureFor_is {scope : Scope} {env : Env} (h : (scope.names.all fun p => p.2 != .free || (env.cells.lookup p.1).isSome) = true) : closureFor scope env = pure (closeL env scope.names []) := by
  have := closeGo env scope.names [] h
  unfold closureFor
  first
    | (simp only [] ; rw [show (forIn scope.names ([] : List (Str × Addr)) _ : Sem _) = pure (closeL env scope.names []) from this]; rfl)
    | (refine Eq.trans ?_ (congrArg (fun t => t >>= fun cs => pure cs) this); rfl)
    | (rw [show (forIn scope.names ([] : List (Str × Addr)) _ : Sem _) = _ from this]; rfl)
theorem closeL_get {env : Env} : ∀ {names : List (Str × NameKind)} {acc : List (Str × Addr)} {y : Str} {a : Addr}, (names.all fun p => p.2 != .free || (env.cells.lookup p.1).isSome) = true →
    (∀ y a, acc.lookup y = some a → env.cells.lookup y = some a) → (closeL env names acc).lookup y = some a → env.cells.lookup y = some a
  | [], _, _, _, _, h, e => h _ _ e
  | (n, k) :: r, acc, y, a, hn, h, e => by
    rw [List.all_cons, Bool.and_eq_true] at hn
    unfold closeL at e
    split at e
    · rename_i hk
      refine closeL_get hn.2 (fun z b hz => ?_) e
      rw [List.lookup_cons] at hz
      cases hzn : z == n with
      | true =>
        rw [hzn] at hz; cases hz
        have := beq_iff_eq.mp hzn; subst this
        have hk' := beq_iff_eq.mp hk
        have h1 : (env.cells.lookup z).isSome = true := by simpa [hk'] using hn.1
        obtain ⟨b, hb⟩ := Option.isSome_iff_exists.mp h1
        rw [hb]; rfl
      | false => rw [hzn] at hz; exact h _ _ hz
    · exact closeL_get hn.2 h e
theorem closeL_acc {env : Env} : ∀ {names : List (Str × NameKind)} {acc : List (Str × Addr)} {y : Str}, (acc.lookup y).isSome = true → ((closeL env names acc).lookup y).isSome = true
  | [], _, _, h => h
  | (n, k) :: r, acc, y, h => by
    unfold closeL
    split
    · refine closeL_acc ?_
      rw [List.lookup_cons]
      cases y == n <;> simp [h]
    · exact closeL_acc h
theorem closeL_has {env : Env} : ∀ {names : List (Str × NameKind)} {acc : List (Str × Addr)} {y : Str}, (y, NameKind.free) ∈ names → ((closeL env names acc).lookup y).isSome = true
  | (n, k) :: r, acc, y, h => by
    unfold closeL
    rcases List.mem_cons.mp h with e | h
    · cases e
      rw [if_pos (by rfl)]
      exact closeL_acc (by simp [List.lookup_cons])
    · split <;> exact closeL_has h

def frzSV : SV → PyData
  | .dat d => d
  | .own _ ds => .list ds
/-- what a block sees of the store -/
def visC : List (Str × NameKind) → Sto → Sto
  | [], _ => []
  | (n, k) :: r, σ => if k == .free then (match σ.lookup n with | some sv => (n, .dat (frzSV sv)) :: visC r σ | none => visC r σ) else visC r σ
theorem visC_get {σ : Sto} : ∀ {names : List (Str × NameKind)} {y : Str} {sv : SV}, (visC names σ).lookup y = some sv → ∃ sv₀, σ.lookup y = some sv₀ ∧ sv = .dat (frzSV sv₀) ∧ (y, NameKind.free) ∈ names
  | [], _, _, h => by simp [visC] at h
  | (n, k) :: r, y, sv, h => by
    unfold visC at h
    have up : (∃ sv₀, σ.lookup y = some sv₀ ∧ sv = .dat (frzSV sv₀) ∧ (y, NameKind.free) ∈ r) → ∃ sv₀, σ.lookup y = some sv₀ ∧ sv = .dat (frzSV sv₀) ∧ (y, NameKind.free) ∈ (n, k) :: r := fun ⟨a, b, c, d⟩ => ⟨a, b, c, List.mem_cons_of_mem _ d⟩
    split at h
    · rename_i hk
      have hk' := beq_iff_eq.mp hk
      subst hk'
      split at h
      · rename_i sv₀ hs
        rcases lookup_put h with ⟨rfl, rfl⟩ | ⟨_, h'⟩
        · exact ⟨sv₀, hs, rfl, List.mem_cons_self⟩
        · exact up (visC_get h')
      · exact up (visC_get h)
    · exact up (visC_get h)

theorem relabel_free {env : Env} : ∀ {names : List (Str × NameKind)} {x : Str}, names.lookup x = some .free →
    (names.map fun (n, k) => if (k == NameKind.free && env.scope.kind == .function && env.kindOf n == some .cell) then (n, NameKind.cell) else (n, k)).lookup x = some .free ∨
    (names.map fun (n, k) => if (k == NameKind.free && env.scope.kind == .function && env.kindOf n == some .cell) then (n, NameKind.cell) else (n, k)).lookup x = some .cell
  | [], _, h => by simp at h
  | (n, k) :: r, x, h => by
    have ih := @relabel_free env r x
    show List.lookup x ((if (k == NameKind.free && env.scope.kind == .function && env.kindOf n == some .cell) = true then (n, NameKind.cell) else (n, k)) :: _) = _ ∨ List.lookup x ((if (k == NameKind.free && env.scope.kind == .function && env.kindOf n == some .cell) = true then (n, NameKind.cell) else (n, k)) :: _) = _
    cases hx : x == n with
    | true =>
      simp only [List.lookup_cons, hx] at h
      cases h
      by_cases hc : (NameKind.free == NameKind.free && env.scope.kind == .function && env.kindOf n == some .cell) = true
      · rw [if_pos hc]; right; simp [List.lookup_cons, hx]
      · rw [if_neg hc]; left; simp [List.lookup_cons, hx]
    | false =>
      simp only [List.lookup_cons, hx] at h
      by_cases hc : (k == NameKind.free && env.scope.kind == .function && env.kindOf n == some .cell) = true
      · rw [if_pos hc]; simp only [List.lookup_cons, hx]; exact ih h
      · rw [if_neg hc]; simp only [List.lookup_cons, hx]; exact ih h

/-- one turn of a block: no test or one; the item it keeps, if any -/
def CompItem (j : J) (σ : Sto) (ifs : List PySem.Expr) (elt : PySem.Expr) (r : Option PyData) : Prop :=
  match ifs with
  | [] => ∃ d', r = some d' ∧ PE j σ .fresh elt d'
  | [c] => ∃ b, PB j σ c b ∧ (b = true → ∃ d', r = some d' ∧ PE j σ .fresh elt d') ∧ (b = false → r = none)
  | _ => False

abbrev J.comp (j : J) (scope : Scope) (C : Addr) (H : Addr → Prop) : J := { j with env := compEnvC scope (closeL j.env scope.names []) C j.env, hole := H }

/-- the static matters of a block -/
structure BlockOk (env : Env) (scope : Scope) : Prop where
  cells : (scope.names.all fun p => p.2 != .free || (env.cells.lookup p.1).isSome) = true
  noloc : (scope.names.all fun p => p.2 != .free || env.kindOf p.1 != some .local) = true
  nocell : (scope.names.all fun p => p.2 != .cell) = true
  kind : scope.kind = .function
  loc : (scope.names.all fun p => p.2 != .local || scope.names.lookup p.1 == some .local) = true
  fre : (scope.names.all fun p => p.2 != .free || scope.names.lookup p.1 == some .free) = true

theorem storable_local {j : J} {scope : Scope} {C : Addr} {x : Str} (h : Storable (compEnvC scope (closeL j.env scope.names []) C j.env) x) : (compEnvC scope (closeL j.env scope.names []) C j.env).kindOf x = some .local := by
  rcases h with h | ⟨_, h, _⟩
  · exact h
  · cases h

theorem bindT_other {env : Env} {tgt : PySem.Expr} {d : PyData} {τ : Sto} {y : Str} {sv : SV} (ht : TgtOk env tgt d) (hy : ¬ Storable env y) (h : τ.lookup y = some sv) : (bindT tgt d τ).lookup y = some sv := by
  rcases ht with @⟨x, p, _, ht⟩ | @⟨a, b, pa, pb, p, k, d₁, d₂, ht⟩
  · show List.lookup y ((x, SV.dat d) :: τ) = _
    rw [lookup_cons_ne (fun q => by subst q; exact hy ht)]; exact h
  · show List.lookup y ((b, SV.dat d₂) :: (a, SV.dat d₁) :: τ) = _
    rw [lookup_cons_ne (fun q => by subst q; exact hy ht.2), lookup_cons_ne (fun q => by subst q; exact hy ht.1)]; exact h

theorem take_fm (g : PyData → Option PyData) {ds : List PyData} {i : Nat} {d : PyData} (hd : ds[i]? = some d) : (ds.take (i + 1)).filterMap g = (ds.take i).filterMap g ++ (g d).toList := by
  rw [List.take_add_one, hd, List.filterMap_append]
  cases h : g d <;> simp [h]
theorem ChgG.thenExt' {Z : Addr → Prop} {s s' : Shared} {C : Addr} {h' : Heap} (x : Chg Z s s') (hC : ¬ Live s.heap C) (hs : Heap.SameBut C s'.heap h') : Chg Z s { s' with heap := h' } :=
  ChgG.then (Z' := fun b => b = C) (G' := fun _ => False) x ⟨fun b o hb e => (hs.2 b hb).trans e, Nat.le_refl _, fun _ _ _ => rfl, id, rfl⟩ (fun b q => .inr (q ▸ hC)) fun _ q => q.elim

section
variable {j : J} {σ τ : Sto}

theorem comp_core {elt tgt iter : PySem.Expr} {ifs : List PySem.Expr} {scope : Scope} {pos : Pos} {ds : List PyData} (g : PyData → Option PyData) (ok : Ok j) (B : BlockOk j.env scope)
    {s s₁ s₂ : Shared} {it : Addr} {W₀ : Addr → Prop} {G : Nat → Prop} {St : Nat → (Addr → Prop) → Shared → Prop} (F : Fm j.cx σ s) (x₁ : Ext s s₁) (x₂ : Ext s₁ s₂) (I : Itr j.prog j.w j.A j.cx σ s₁ it tgt ds G St) (st0 : St 0 W₀ s₂) (hG : ∀ i, G i → s₁.gens.size ≤ i) (hsz₀ : s₁.heap.objs.size ≤ s₂.heap.objs.size)
    (hz : ds.length < 1000) (ht : ∀ C, ∀ d ∈ ds, TgtOk (compEnvC scope (closeL j.env scope.names []) C j.env) tgt d)
    (hitem : ∀ (C : Addr) (H : Addr → Prop) (d : PyData), d ∈ ds → CompItem (j.comp scope C H) (bindT tgt d (visC scope.names σ)) ifs elt (g d))
    {E : Value → Shared → Prop} {RR : Value → Addr → Result → Shared → Prop}
    (hR : ∀ (D C : Addr) s' m, Ext s s' → ¬ Live s.heap C → s'.heap.Ns C m → RV (fun b => Live s.heap b ∨ b = C) s'.heap (.list (ds.filterMap g)) (.ref D) → RR (.ref D) C (.ok .next) s') :
    wpAny (model j.prog j.w) j.A (newList []) (fun acc s₃ => wpAny (model j.prog j.w) j.A (newFunctionEnv scope j.env.globals (closeL j.env scope.names []) [] j.env.qual none .none (some j.env)) (fun cenv s₄ =>
      codeAny (model j.prog j.w) j.A (.compStart (.ListComp elt [⟨tgt, iter, ifs, 0⟩] scope pos) 0 (.ref it) acc { cenv with scope := relabel scope j.env }) (RR acc cenv.locals) s₄) E s₃) E s₂ := by
  have F₁ := F.ext x₁
  have F₂ := F₁.ext x₂
  have hcell : ∀ y ∈ scope.names, y.2 ≠ .cell := fun y hy => by simpa using List.all_eq_true.mp B.nocell y hy
  refine wpAny_newObj_type (wpAny_newFunctionEnv hcell (by intro y hy; simp at hy) (fun h₁ hns₁ hsb₁ => ?_) B.kind)
  dsimp only at hns₁ hsb₁ ⊢
  generalize hD : s₂.heap.objs.size = D at hns₁ hsb₁ ⊢
  generalize hH2 : s₂.heap.push { cls := .type "list", dict := none, data := .seq ([] : List Value).toArray } = H2 at hns₁ hsb₁ ⊢
  have hC : H2.objs.size = D + 1 := by rw [← hH2, Heap.size_push, hD]
  have hDC : D ≠ H2.objs.size := by rw [hC]; exact Nat.ne_of_lt (Nat.lt_succ_self _)
  have old₂ : ∀ b o, s₂.heap.get? b = some o → h₁.get? b = some o := fun b o e => hsb₁.extBut b o (by
    have := Heap.lt_size e; rw [hC]; rw [hD] at this; exact Nat.ne_of_lt (Nat.lt_succ_of_lt this)) (Heap.get?_push_of_some _ (hH2 ▸ Heap.get?_push_of_some _ e))
  have hDdead₂ : ¬ Live s₂.heap D := hD ▸ new_dead
  have hCdead₂ : ¬ Live s₂.heap H2.objs.size := fun ⟨o, e⟩ => by have := Heap.lt_size e; rw [hC, hD] at this; exact Nat.lt_irrefl _ (Nat.lt_trans (Nat.lt_succ_self _) this)
  have hacc : h₁.PlainList D #[] := ⟨_, hsb₁.extBut _ _ hDC (Heap.get?_push_of_some _ (hH2 ▸ hD ▸ Heap.get?_push_size _ rfl))⟩
  generalize hCC : H2.objs.size = C at *
  have down : ∀ b, Live s₁.heap b → Live s₂.heap b := fun b l => x₂.live l
  have hWl := (I.live 0 W₀ s₂ st0 fun b o _ e => x₂.get e).1
  have hWD₀ : ∀ b, W₀ b → b ≠ D := fun b w q => hDdead₂ (q ▸ hWl b w)
  have hWC₀ : ∀ b, W₀ b → b ≠ C := fun b w q => hCdead₂ (q ▸ hWl b w)
  let Hf : (Addr → Prop) → Addr → Prop := fun W b => W b ∨ b = D
  let jf : (Addr → Prop) → J := fun W => j.comp scope C (Hf W)
  let σc : Sto := visC scope.names σ
  have okc : ∀ W, Ok (jf W) := fun W => ⟨B.kind, ok.glo, ok.blt, ok.gl, ok.rm⟩
  have noOwn : ∀ x a dd, σc.lookup x ≠ some (.own a dd) := fun x a dd e => by obtain ⟨_, _, q, _⟩ := visC_get e; cases q
  have hmut : ∀ W b, mutC (jf W).cx σc b ↔ b = C := fun W b => ⟨fun q => by
    rcases q with q | ⟨q, _⟩ | ⟨x, dd, q⟩
    · exact q
    · cases q
    · exact absurd q (noOwn _ _ _), fun q => .inl q⟩
  have hav : ∀ W b, avC (jf W).cx σc b ↔ b = C ∨ W b ∨ b = D := fun W b => ⟨fun q => q.imp (hmut W b).mp id, fun q => q.imp (hmut W b).mpr id⟩
  have avdead : ∀ (W : Addr → Prop), (∀ b, W b → ¬ Live s₁.heap b) → ∀ b, avC (jf W).cx σc b → ¬ Live s₁.heap b := fun W hW b q l => by
    rcases (hav W b).mp q with rfl | q | rfl
    · exact hCdead₂ (down _ l)
    · exact hW b q l
    · exact hDdead₂ (down _ l)
  have hcl : ∀ y a, (closeL j.env scope.names []).lookup y = some a → j.env.cells.lookup y = some a := fun y a e => closeL_get B.cells (by intro y a e; simp at e) e
  have cellW : ∀ b, ¬ Live s₁.heap b → ∀ y, (closeL j.env scope.names []).lookup y ≠ some b := fun b w y e => w (let ⟨ov, o, ho, _⟩ := F₁.cells y b (hcl y b e); ⟨o, ho⟩)
  -- the facts in the block's own frame
  have mk : ∀ (W : Addr → Prop) (s' : Shared), (∀ b, W b → ¬ Live s₁.heap b) → Ext s₁ s' → s'.heap.Ns C (fun _ => none) → (∀ b, W b → Live s'.heap b) → Live s'.heap D → Fm (jf W).cx σc s' := by
    intro W s' hW x hn hw hd
    refine ⟨fun b o e => x.get (F₁.keep b o e), fun b q l => avdead W hW b q (let ⟨o, e⟩ := l; ⟨o, F₁.keep b o e⟩), fun _ q => q, fun b q => q.elim (hw b) fun e => e ▸ hd, ⟨_, hn, fun y sv e => ?_⟩, fun y a e => ?_, fun y z a e e' => F₁.cellsApart y z a (hcl _ _ e) (hcl _ _ e'), fun y z a dd dd' e => absurd e (noOwn _ _ _)⟩
    · obtain ⟨sv₀, hs₀, rfl, hm⟩ := visC_get e
      obtain ⟨m₀, _, hs⟩ := F₁.ns
      have isv := hs y sv₀ hs₀
      have hfree : scope.names.lookup y = some .free := by simpa using List.all_eq_true.mp B.fre _ hm
      obtain ⟨a, ha⟩ := Option.isSome_iff_exists.mp (closeL_has (env := j.env) (acc := []) hm)
      have hk : (compEnvC scope (closeL j.env scope.names []) C j.env).kindOf y = some .cell ∨ (compEnvC scope (closeL j.env scope.names []) C j.env).kindOf y = some .free := (relabel_free (env := j.env) hfree).symm
      have ha' := hcl y a ha
      have mv : ∀ {d : PyData} {v : Value}, RV (avC j.cx σ) s₁.heap d v → RV (avC (jf W).cx σc) s'.heap d v := fun q => q.move (fun b o _ e => x.get e) fun b q => .inr (avdead W hW b q)
      have mvs : ∀ {d : List PyData} {v : List Value}, RVs (avC j.cx σ) s₁.heap d v → RVs (avC (jf W).cx σc) s'.heap d v := fun q => q.move (fun b o _ e => x.get e) fun b q => .inr (avdead W hW b q)
      have cellAt : ∀ v, Holds j.cx m₀ s₁.heap y v → s'.heap.IsCell a (some v) := fun v H => by
        rcases H with ⟨hl, _⟩ | ⟨_, b, hb, hc⟩
        · exfalso
          have := List.all_eq_true.mp B.noloc _ hm
          simp only [bne_self_eq_false, Bool.false_or, bne_iff_ne, ne_eq] at this
          exact this hl
        · have : j.env.cells.lookup y = some b := hb
          rw [ha'] at this; cases this
          exact hc.keeps fun _ _ e => x.get e
      cases sv₀ with
      | dat d => obtain ⟨v, Hv, hv⟩ := isv; exact ⟨v, .inr ⟨hk, a, ha, cellAt v Hv⟩, mv hv⟩
      | own b dd =>
        obtain ⟨Hv, vs, hl, hv⟩ := isv
        exact ⟨.ref b, .inr ⟨hk, a, ha, cellAt _ Hv⟩, RV.list_iff.mpr ⟨b, vs, rfl, fun q => avdead W hW b q (let ⟨n, e⟩ := hl; ⟨_, e⟩), hl.at fun o e => x.get e, mvs hv⟩⟩
    · obtain ⟨ov, hc⟩ := F₁.cells y a (hcl y a e)
      exact ⟨ov, hc.keeps fun _ _ e => x.get e⟩
  -- the turns
  let Zd : Addr → Prop := fun b => Live s.heap b ∨ b = C ∨ b = D
  let I' : Nat → Shared → Prop := fun n s' => ∃ i vs W, n = ds.length + 1 - i ∧ i ≤ ds.length ∧ Fm (jf W).cx σc s' ∧ Ext s₁ s' ∧ St i W s' ∧ s'.heap.PlainList D vs ∧ RVs (fun b => Zd b ∨ W b) s'.heap ((ds.take i).filterMap g) vs.toList ∧ vs.size ≤ i ∧ (∀ b, W b → b ≠ D ∧ b ≠ C) ∧ s₁.heap.objs.size ≤ s'.heap.objs.size
  have hns' : h₁.Ns C fun _ => none := hns₁
  have st₄ : ∀ tk, St 0 W₀ { s₂ with heap := h₁, toks := tk } := fun tk => I.frame 0 _ s₂ _ st0 (fun b o _ e => old₂ b o e) fun _ _ => rfl
  have x₄ : ∀ tk, Ext s₁ { s₂ with heap := h₁, toks := tk } := fun tk => x₂.thenExt (Ext.heap old₂)
  have cellC : ∀ y, (closeL j.env scope.names []).lookup y ≠ some D := fun y e => hDdead₂ (x₂.live (let ⟨ov, o, ho, _⟩ := F₁.cells y D (hcl y D e); ⟨o, ho⟩))
  have hsz₁ : s₁.heap.objs.size ≤ h₁.objs.size := by
    rw [hsb₁.1, Heap.size_push, hCC, hC]; omega
  have loop : ∀ tk, codeAny (model j.prog j.w) j.A (.compLoop (.ListComp elt [⟨tgt, iter, ifs, 0⟩] scope pos) 0 (.ref it) (.ref D) (jf W₀).env) (RR (.ref D) C) { s₂ with heap := h₁, toks := tk } := by
    intro tk
    refine compLoop_any I' ?_ (ds.length + 1) ⟨0, #[], W₀, rfl, Nat.zero_le _, mk W₀ _ (I.dead _ _ _ st0) (x₄ tk) hns' (fun b w => (I.live 0 _ _ (st₄ tk) fun b o _ e => (x₄ tk).get e).1 b w) (let ⟨n, e⟩ := hacc; ⟨_, e⟩), x₄ tk, st₄ tk, hacc, .nil, Nat.le_refl _, fun b w => ⟨hWD₀ b w, hWC₀ b w⟩, hsz₁⟩
    rintro n s' ⟨i, vs, W, rfl, hi', Fc, xs, hst, hl, hr, hsz, hWDC, hsz'⟩
    have hW : ∀ b, W b → ¬ Live s₁.heap b := I.dead _ _ _ hst
    have hfrz : Frz j.cx σ s₁ s' := fun b o _ e => xs.get e
    have hDl : Live s'.heap D := let ⟨n, e⟩ := hl; ⟨_, e⟩
    have hCl : Live s'.heap C := Fc.mutLive (.inl rfl)
    by_cases hlt : i < ds.length
    · have hd : ds[i]? = some ds[i] := List.getElem?_eq_getElem hlt
      have hmem : ds[i] ∈ ds := List.getElem_mem hlt
      refine I.step i W ds[i] s' hd hst hfrz (fun b => b = C ∨ b = D) (fun b q => q.elim (fun q => q ▸ hCl) fun q => q ▸ hDl) (fun b q => .inr (avdead W hW b ((hav W b).mpr (q.imp id .inr)))) (fun b q w => q.elim (hWDC b w).2 (hWDC b w).1) hsz' _ _ _ fun v s₃ W₃ C₃ hs₃ st₃ hnew₀ hv => ?_
      have hnew : ∀ b, W₃ b → W b ∨ ¬ Live s'.heap b := fun b w => (hnew₀ b w).imp id dead_above
      have xs₃ : Ext s₁ s₃ := ChgG.then xs C₃ (fun b w => .inr (hW b w)) fun g q => .inr (hG g q)
      have hlive₃ := I.live _ _ _ st₃ fun b o _ e => xs₃.get e
      have hW₃ := I.dead _ _ _ st₃
      have hWDC₃ : ∀ b, W₃ b → b ≠ D ∧ b ≠ C := fun b w => (hnew b w).elim (hWDC b) fun l => ⟨fun q => l (q ▸ hDl), fun q => l (q ▸ hCl)⟩
      have Fz : FmZ (fun b => avC (jf W).cx σc b ∨ W₃ b) { (jf W).cx with hole := fun b => b = D } σc s' :=
        (Fc.turn (Z' := fun b => avC (jf W).cx σc b ∨ W₃ b) (fun b q => q.elim .inl fun w => (hnew b w).elim (fun w => .inl ((hav W b).mpr (.inr (.inl w)))) fun l => .inr ⟨l, fun ⟨o, e⟩ => l ⟨o, Fc.keep b o e⟩⟩) fun b q => .inl q).rehole (H := fun b => b = D) (fun b q => q ▸ hDl) (fun b q => q) fun b q => .inl ((hav W b).mpr (q.elim (fun q => .inl ((hmut W b).mp q)) fun q => .inr (.inr q)))
      have F₃ : Fm (jf W₃).cx σc s₃ := FmZ.rehole (H := Hf W₃) (Fz.chg C₃ (fun b w => .inl ((hav W b).mpr (.inr (.inl w)))) (fun b w q => (hWDC b w).2 ((hmut W b).mp q)) (fun b w y => cellW b (hW b w) y) fun b q w => absurd q (hWDC b w).1)
        (fun b q => q.elim (hlive₃.1 b) fun q => q ▸ let ⟨n, e⟩ := hl; ⟨_, C₃.keep D _ (fun w => (hWDC D w).1 rfl) e⟩) (fun b q => ((hav W₃ b).mp q).elim (fun q => .inl ((hav W b).mpr (.inl q))) fun q => q.elim .inr fun q => .inl ((hav W b).mpr (.inr (.inr q)))) fun b q => q
      have hl₃ : s₃.heap.PlainList D vs := hl.at fun o e => C₃.keep D o (fun w => (hWDC D w).1 rfl) e
      have hr₃ : RVs (fun b => Zd b ∨ W₃ b) s₃.heap ((ds.take i).filterMap g) vs.toList := hr.move (fun b o hb e => C₃.keep b o (fun w => hb (.inr w)) e) fun b q => q.elim (fun q => .inl (.inl q)) fun w => (hnew b w).imp .inr id
      refine sized (assignT (okc W₃) (ht C _ hmem) F₃ (hv.thin fun b q => ((hav W₃ b).mp q).elim (fun q => .inl (.inl q)) fun q => q.elim .inr fun q => .inl (.inr q)) fun s₄ S₄ _ hs₄ => ?_)
      have hz₄ : s₁.heap.objs.size ≤ s₄.heap.objs.size := Nat.le_trans hsz' (Nat.le_trans hs₃ hs₄)
      have xs₄ : Ext s₁ s₄ := ChgG.next xs₃ S₄.chg fun b q => .inr (by rw [(hmut W₃ b).mp q]; exact fun l => hCdead₂ (down _ l))
      have keep₄ : ∀ b o, b ≠ C → s₃.heap.get? b = some o → s₄.heap.get? b = some o := fun b o hb e => S₄.chg.keep b o (fun q => hb ((hmut W₃ b).mp q)) e
      have st₄' : St (i + 1) W₃ s₄ := I.frame _ _ _ _ st₃ (fun b o w e => keep₄ b o (hWDC₃ b w).2 e) fun g q => S₄.chg.gens g (hlive₃.2 g q) id
      have hlive₄ := I.live _ _ _ st₄' fun b o _ e => xs₄.get e
      have hl₄ : s₄.heap.PlainList D vs := hl₃.at fun o e => keep₄ D o hDC e
      have hr₄ : RVs (fun b => Zd b ∨ W₃ b) s₄.heap ((ds.take i).filterMap g) vs.toList := hr₃.move (fun b o hb e => keep₄ b o (fun q => hb (.inl (.inr (.inl q)))) e) fun b q => .inl q
      have hit := hitem C (Hf W₃) ds[i] hmem
      have htake : (ds.take (i + 1)).filterMap g = (ds.take i).filterMap g ++ (g ds[i]).toList := take_fm g hd
      have wk : ∀ {s' : Shared}, Fm (jf W₃).cx (bindT tgt ds[i] σc) s' → Fm (jf W₃).cx σc s' := fun F => Fm.weak F fun y sv e => bindT_other (ht C _ hmem) (fun q => by
        obtain ⟨sv₀, _, _, hm⟩ := visC_get e
        have hfree : scope.names.lookup y = some .free := by simpa using List.all_eq_true.mp B.fre _ hm
        have hk := relabel_free (env := j.env) hfree
        have hloc := storable_local q
        rcases hk with hk | hk
        · have := hloc.symm.trans hk; cases this
        · have := hloc.symm.trans hk; cases this) e
      have skip : g ds[i] = none → ∀ s₅, Ext s₄ s₅ → s₁.heap.objs.size ≤ s₅.heap.objs.size → ∃ m, m < ds.length + 1 - i ∧ I' m s₅ := fun hg s₅ x hz₅ => ⟨ds.length + 1 - (i + 1), by omega, i + 1, vs, W₃, rfl, hlt, wk (S₄.fm.ext x), xs₄.thenExt x,
        I.frame _ _ _ _ st₄' (fun b o _ e => x.get e) (fun g q => x.gens g (hlive₄.2 g q) id), hl₄.at fun o e => x.get e, by rw [htake, hg]; simpa using hr₄.ext x, Nat.le_succ_of_le hsz, hWDC₃, hz₅⟩
      have put : ∀ d', g ds[i] = some d' → PE (jf W₃) (bindT tgt ds[i] σc) .fresh elt d' → ∀ s₅, Ext s₄ s₅ → s₁.heap.objs.size ≤ s₅.heap.objs.size → ∀ E', wpAny (model j.prog j.w) j.A (eval elt (jf W₃).env) (fun x s₆ => wpAny (model j.prog j.w) j.A (call (.builtin "list.append") [.ref D, x]) (fun _ s₇ => ∃ m, m < ds.length + 1 - i ∧ I' m s₇) E' s₆) E' s₅ := by
        intro d' hg hpe s₅ x₅ hz₅ E'
        refine sized (hpe (okc W₃) s₅ (S₄.fm.ext x₅) _ _ fun v' s₆ x₆ hv' hs₆ => ?_)
        have x₄₆ := x₅.thenExt x₆
        refine append_plain (hl₄.at fun o e => x₄₆.get e) (fun h' hl' hs' => ?_) (by
          have e : sizeLine = 16777216 := by decide
          omega)
        have hD₅ : Live s₅.heap D := x₅.live (let ⟨n, e⟩ := hl₄; ⟨_, e⟩)
        have hC₅ : Live s₅.heap C := (S₄.fm.ext x₅).mutLive (.inl rfl)
        have hW₅ : ∀ b, W₃ b → Live s₅.heap b := fun b w => x₅.live (hlive₄.1 b w)
        have ke : ∀ b o, b ≠ D → s₆.heap.get? b = some o → h'.get? b = some o := fun b o hb e => (hs'.2 b hb).trans e
        have c₇ : ChgG (fun b => b = D) (fun _ => False) s₆ { s₆ with heap := h' } := ⟨fun b o hb e => ke b o hb e, Nat.le_refl _, fun _ _ _ => rfl, id, rfl⟩
        have F₆ : Fm (jf W₃).cx (bindT tgt ds[i] σc) s₆ := S₄.fm.ext x₄₆
        have hm₆ : ∀ b, b = D → ¬ mutC (jf W₃).cx (bindT tgt ds[i] σc) b := fun b q m => by
          subst q
          rcases S₄.new _ m with m | m
          · exact hDC ((hmut W₃ _).mp m)
          · exact m (let ⟨n, e⟩ := hl₃; ⟨_, e⟩)
        have F₇ : Fm (jf W₃).cx (bindT tgt ds[i] σc) { s₆ with heap := h' } := F₆.chg c₇ (fun b q => .inr (.inr q)) hm₆ (fun b q y => q ▸ cellC y) fun b _ q => q ▸ let ⟨n, e⟩ := hl'; ⟨_, e⟩
        have x₆₇ : Ext s₁ { s₆ with heap := h' } := ChgG.next (xs₄.thenExt x₄₆) c₇ fun b q => .inr (by rw [q]; exact fun l => hDdead₂ (down _ l))
        refine ⟨ds.length + 1 - (i + 1), by omega, i + 1, _, W₃, rfl, hlt, wk F₇, x₆₇, ?_, hl', ?_, by rw [Array.size_push]; omega, hWDC₃, (by show _ ≤ h'.objs.size; rw [hs'.1]; exact Nat.le_trans hz₅ hs₆)⟩
        · refine I.frame _ _ _ _ (I.frame _ _ _ s₆ st₄' (fun b o _ e => x₄₆.get e) fun g q => x₄₆.gens g (hlive₄.2 g q) id) (fun b o w e => ke b o (hWDC₃ b w).1 e) fun _ _ => rfl
        · rw [htake, hg, Array.toList_push]
          refine RVs.append ((hr₄.ext x₄₆).move (fun b o hb e => ke b o (fun q => hb (.inl (.inr (.inr q)))) e) fun b q => .inl q) (.cons ?_ .nil)
          refine hv'.move (fun b o hb e => ke b o (fun q => hb (q ▸ hD₅)) e) fun b q => .inl ?_
          rcases q with (q | rfl | rfl) | q
          · exact x₅.live (xs₄.live (x₁.live q))
          · exact hC₅
          · exact hD₅
          · exact hW₅ b q
      unfold CompItem at hit
      split at hit
      · obtain ⟨d', hg, hpe⟩ := hit
        refine wpAny_tests_nil ?_
        rw [if_pos rfl]
        exact put d' hg hpe s₄ (Chg.refl _) hz₄ _
      · rename_i c
        obtain ⟨b, hb, ht', hf'⟩ := hit
        refine wpAny_tests_one (sized (hb (okc W₃) s₄ S₄.fm _ _ fun s₅ x₅ hs₅ => ?_))
        cases b with
        | true =>
          rw [if_pos rfl]
          obtain ⟨d', hg, hpe⟩ := ht' rfl
          exact put d' hg hpe s₅ x₅ (Nat.le_trans hz₄ hs₅) _
        | false =>
          rw [if_neg Bool.false_ne_true]
          exact skip (hf' rfl) s₅ x₅ (Nat.le_trans hz₄ hs₅)
      · exact hit.elim
    · have hin : i = ds.length := by omega
      subst hin
      refine I.stop W s' hst hfrz _ _ fun s₃ C₃ => ?_
      have xs₃ : Ext s₁ s₃ := ChgG.then xs C₃ (fun b w => .inr (hW b w)) fun g q => .inr (hG g q)
      obtain ⟨m, hn, _⟩ := Fc.ns
      refine hR D C s₃ m (x₁.thenExt xs₃) (fun l => hCdead₂ (down _ (x₁.live l))) (hn.at fun o e => C₃.keep C o (fun w => (hWDC C w).2 rfl) e) ?_
      refine RV.list_iff.mpr ⟨D, vs, rfl, fun q => q.elim (fun l => hDdead₂ (down _ (x₁.live l))) hDC, hl.at fun o e => C₃.keep D o (fun w => (hWDC D w).1 rfl) e, ?_⟩
      rw [List.take_of_length_le (Nat.le_refl _)] at hr
      exact (hr.move (fun b o hb e => C₃.keep b o (fun w => hb (.inr w)) e) fun b q => .inl q).thin fun b q => .inl (q.imp id .inl)
  exact codeAny_compStart_list (loop _) (I.self 0 _ _ (st₄ _) (fun b o _ e => (x₄ _).get e) _ _ (loop _))

theorem pe_comp {elt tgt iter : PySem.Expr} {ifs : List PySem.Expr} {scope : Scope} {pos : Pos} {ds : List PyData} (g : PyData → Option PyData) (hi : PI j σ iter tgt ds) (B : BlockOk j.env scope)
    (hz : ds.length < 1000) (ht : ∀ C, ∀ d ∈ ds, TgtOk (compEnvC scope (closeL j.env scope.names []) C j.env) tgt d)
    (hitem : ∀ (C : Addr) (H : Addr → Prop) (d : PyData), d ∈ ds → CompItem (j.comp scope C H) (bindT tgt d (visC scope.names σ)) ifs elt (g d))
    (hs : ∀ x, foldedSetIterable iter j.env x = pure x := by intro _; rfl) : PE j σ .fresh (.ListComp elt [⟨tgt, iter, ifs, 0⟩] scope pos) (.list (ds.filterMap g)) := by
  intro ok s F Q E hQ
  rw [eval_ListComp]
  refine wpAny_comprehension_free (use := none) rfl hs (closureFor_is B.cells) B.kind (fun x hx hl => by have := List.all_eq_true.mp B.loc x hx; rw [hl] at this; simpa using this)
    (hi ok s F _ _ fun it s₁ s₂ W G St x₁ x₂ I st0 hG hs₀ => comp_core g ok B F x₁ x₂ I st0 hG hs₀ hz ht hitem (RR := fun acc C => compPost (model j.prog j.w) j.A E none Q acc C) fun D C s' m x hC hn hv => ?_)
  refine ⟨m, hn, fun h' hs' => hQ _ _ (x.thenExt' hC hs') ?_⟩
  exact hv.move (fun b o hb e => (hs'.2 b fun q => hb (.inr q)).trans e) fun b q => .inl (.inl q)

/-- a block's list stored at once into a local of the function's -/
theorem s1_assignComp {elt tgt iter : PySem.Expr} {ifs : List PySem.Expr} {scope : Scope} {pos spos xp : Pos} {x : Str} {ds : List PyData} (g : PyData → Option PyData) (hi : PI j σ iter tgt ds) (B : BlockOk j.env scope)
    (hz : ds.length < 1000) (ht : ∀ C, ∀ d ∈ ds, TgtOk (compEnvC scope (closeL j.env scope.names []) C j.env) tgt d)
    (hitem : ∀ (C : Addr) (H : Addr → Prop) (d : PyData), d ∈ ds → CompItem (j.comp scope C H) (bindT tgt d (visC scope.names σ)) ifs elt (g d)) (hx : j.env.kindOf x = some .local)
    (hsw : swapsWith (.ListComp elt [⟨tgt, iter, ifs, 0⟩] scope pos) (some (.Name x xp)) spos.line j.env = pure true := by rfl)
    (hs : ∀ x, foldedSetIterable iter j.env x = pure x := by intro _; rfl) : S1 j σ (.Assign [.Name x xp] (.ListComp elt [⟨tgt, iter, ifs, 0⟩] scope pos) spos) fun rf τ => rf = .next ∧ τ = (x, .dat (.list (ds.filterMap g))) :: σ := by
  intro ok s F Q E hQ
  rw [exec_Assign_Name_used _ _ _ _ hsw]
  refine wpAny_bind (wpAny_standAt (wpAny_bind ?_))
  show wpAny _ j.A (do let _ ← comprehension (.ListComp elt [⟨tgt, iter, ifs, 0⟩] scope pos) scope j.env _ (newList []) false (eval iter j.env) (some (assign (.Name x xp) j.env))) _ _ s
  refine wpAny_bind (wpAny_mono (wpAny_comprehension_free (use := some (assign (.Name x xp) j.env)) (Q := fun _ s' => Q .next s') rfl hs (closureFor_is B.cells) B.kind (fun x hx hl => by have := List.all_eq_true.mp B.loc x hx; rw [hl] at this; simpa using this)
    (hi ok s F _ _ fun it s₁ s₂ W G St x₁ x₂ I st0 hG hs₀ => comp_core g ok B F x₁ x₂ I st0 hG hs₀ hz ht hitem (RR := fun acc C => compPost (model j.prog j.w) j.A E (some (assign (.Name x xp) j.env)) (fun _ s' => Q .next s') acc C) fun D C s' m xe hC hn hv => ?_))
    (fun _ s' hq => wpAny_pure (wpAny_pure hq)) fun _ _ e => e)
  show wpAny _ j.A (assign (.Name x xp) j.env (.ref D)) _ _ _
  -- the block's frame is a place of nobody's by now
  have hCb : ¬ Live j.base C := fun ⟨o, e⟩ => hC ⟨o, F.keep C o e⟩
  have F' : FmZ (fun b => avC j.cx σ b ∨ b = C) j.cx σ s' := (F.turn (Z' := fun b => avC j.cx σ b ∨ b = C) (fun b q => q.imp id fun e => by subst e; exact ⟨hC, hCb⟩) fun b q => .inl q).ext xe
  have hv' : RV (fun b => avC j.cx σ b ∨ b = C) s'.heap (.list (ds.filterMap g)) (.ref D) := hv.thin fun b q => q.imp F.avLive id
  refine wpAny_assign_Name (storeZ ok F' (.inl hx) (sv := .dat (.list (ds.filterMap g))) hv' (fun _ _ e => by cases e) fun s'' F'' C'' _ => ⟨m, hn.at fun o e => C''.keep C o (fun q => hC (F.mutLive q)) e, fun h' hs' => ?_⟩)
  have c : ChgG (fun b => b = C) (fun _ => False) s'' { s'' with heap := h' } := ⟨fun b o hb e => (hs'.2 b hb).trans e, Nat.le_refl _, fun _ _ _ => rfl, id, rfl⟩
  refine hQ .next .next _ _ ⟨rfl, rfl⟩ trivial ⟨(F''.chg c (fun b q => .inr q) (fun b q w => hC (q ▸ F.mutLive (mut_put w))) (fun b q y e => hC (q ▸ let ⟨ov, o, ho, _⟩ := F.cells y b e; ⟨o, ho⟩)) fun b h q => absurd (F.hole b h) (q ▸ hC)).turn (fun b q => .inl (.inl (av_put q))) fun b q => q, ?_, fun b q => .inl (mut_put q)⟩
  exact (Chg.extThen xe C'').next c fun b q => .inr (q ▸ hC)
end
end Pm

end
section
open PySem PySem.Calls PyProof.Rows
set_option Elab.async false
set_option linter.unusedVariables false
namespace Pm

/-- what a call of the function makes of the data -/
def FS (fs : List DefRec) (cs : List (Str × PyData)) (dr : DefRec) (n : Nat) (ds : List PyData) (d : PyData) : Prop :=
  ∀ (prog : Program) (w : World) (mg mb : Str → Option Value) (A : Around), Rm n A → ∀ s, GL mg mb fs cs s.heap → ∀ (a : Addr) (o : Obj) (pm cd doc : Value), s.heap.get? a = some o →
    o.data = .func (docDef dr.name dr.params dr.body dr.scope pm cd doc) → s.heap.CodeRec cd dr.name → ∀ vs, RVs Nowhere s.heap ds vs → ∀ (Q : Value → Shared → Prop) (E : Value → Shared → Prop),
      (∀ v s', Ext s s' → RV (Live s.heap) s'.heap d v → Q v s') → wpAny (model prog w) A (call (.ref a) vs) Q E s

theorem bindL_out {k : Str → Option NameKind} : ∀ {binds : List (Str × Value)} {m : Str → Option Value} {y : Str}, y ∉ binds.map (·.1) → bindL k binds m y = m y
  | [], _, _, _ => rfl
  | (n, v) :: r, m, y, h => by
    have h1 : y ≠ n := fun e => h (by simp [e])
    have h2 : y ∉ r.map (·.1) := fun e => h (by simp [e])
    unfold bindL
    rw [bindL_out h2]
    split
    · simp [h1]
    · rfl
theorem bindC_out {k : Str → Option NameKind} : ∀ {binds : List (Str × Value)} {m : Str → Option Value} {y : Str}, y ∉ binds.map (·.1) → bindC k binds m y = m y
  | [], _, _, _ => rfl
  | (n, v) :: r, m, y, h => by
    have h1 : y ≠ n := fun e => h (by simp [e])
    have h2 : y ∉ r.map (·.1) := fun e => h (by simp [e])
    unfold bindC
    rw [bindC_out h2]
    split
    · rfl
    · simp [h1]
theorem bindL_in {k : Str → Option NameKind} : ∀ {binds : List (Str × Value)} {m : Str → Option Value} {y : Str} {v : Value}, (binds.map (·.1)).Nodup → (y, v) ∈ binds → k y = some .local → bindL k binds m y = some v
  | (n, u) :: r, m, y, v, hn, h, hk => by
    rw [List.map_cons, List.nodup_cons] at hn
    unfold bindL
    rcases List.mem_cons.mp h with e | h
    · cases e; rw [bindL_out hn.1, if_pos hk]; simp
    · exact bindL_in hn.2 h hk
theorem bindC_in {k : Str → Option NameKind} : ∀ {binds : List (Str × Value)} {m : Str → Option Value} {y : Str} {v : Value}, (binds.map (·.1)).Nodup → (y, v) ∈ binds → k y = some .cell → bindC k binds m y = some v
  | (n, u) :: r, m, y, v, hn, h, hk => by
    rw [List.map_cons, List.nodup_cons] at hn
    unfold bindC
    rcases List.mem_cons.mp h with e | h
    · cases e; rw [bindC_out hn.1, if_neg (by rw [hk]; decide)]; simp
    · exact bindC_in hn.2 h hk

theorem cellsFrom_has {x : Str} : ∀ (names : List (Str × NameKind)) (n : Nat) (acc : List (Str × Addr)), names.lookup x = some .cell ∨ (acc.lookup x).isSome = true → ((cellsFrom n names acc).lookup x).isSome = true
  | [], n, acc, h => by
    rcases h with h | h
    · cases h
    · exact h
  | (y, k) :: r, n, acc, h => by
    unfold cellsFrom
    by_cases hxy : x = y
    · subst hxy
      rcases h with h | h
      · simp [List.lookup] at h; subst h
        exact cellsFrom_has r _ _ (.inr (by simp [List.lookup]))
      · split
        · exact cellsFrom_has r _ _ (.inr (by simp [List.lookup]))
        · exact cellsFrom_has r _ _ (.inr h)
    · have e : (x == y) = false := by simpa using hxy
      have h' : r.lookup x = some .cell ∨ (acc.lookup x).isSome = true := by simpa [List.lookup, e] using h
      split
      · exact cellsFrom_has r _ _ (h'.imp id fun q => by simpa [List.lookup, e] using q)
      · exact cellsFrom_has r _ _ h'

def sto0 (ps : List Str) (ds : List PyData) : Sto := (ps.zip ds).map fun p => (p.1, SV.dat p.2)
theorem sto0_get {Z : Addr → Prop} {h : Heap} : ∀ {ps : List Str} {ds : List PyData} {vs : List Value} {x : Str} {sv : SV}, RVs Z h ds vs → (sto0 ps ds).lookup x = some sv → ∃ d v, sv = .dat d ∧ (x, v) ∈ ps.zip vs ∧ RV Z h d v
  | [], _, _, _, _, _, e => by simp [sto0] at e
  | p :: ps, [], _, _, _, _, e => by simp [sto0] at e
  | p :: ps, d :: ds, vs, x, sv, hr, e => by
    obtain ⟨v, r, rfl, hv, hr⟩ := RVs.cons_iff.mp hr
    rcases lookup_put (σ := sto0 ps ds) e with ⟨rfl, rfl⟩ | ⟨_, e⟩
    · exact ⟨d, v, rfl, by simp, hv⟩
    · obtain ⟨d', v', h1, h2, h3⟩ := sto0_get hr e
      exact ⟨d', v', h1, by simp [h2], h3⟩
theorem sto0_own {ps : List Str} {ds : List PyData} {x : Str} {a : Addr} {dd : List PyData} : (sto0 ps ds).lookup x = some (.own a dd) → False := by
  intro e
  have := mem_of_lookup e
  simp [sto0] at this

abbrev J.fn (prog : Program) (w : World) (mg mb : Str → Option Value) (fs : List DefRec) (cs : List (Str × PyData)) (dr : DefRec) (L a : Addr) (cd : Value) (base : Heap) (n : Nat) (A : Around) : J :=
  { prog, w, mg, mb, fs, cs, env := envOfC dr.name dr.scope L a cd, base, hole := fun _ => False, n, A := A }

/-- a function by its body's walk -/
theorem fs_intro {fs : List DefRec} {cs : List (Str × PyData)} {dr : DefRec} {n : Nat} {ds : List PyData} {d : PyData} (ps : List Str)
    (hbody : ∀ prog w mg mb L a cd base A, SE (J.fn prog w mg mb fs cs dr L a cd base n A) (sto0 ps ds) dr.body fun rf _ => rf = .ret d ∨ (rf = .next ∧ d = .none))
    (hbind : ∀ vs pm cd doc, vs.length = ds.length → bindArgs (docDef dr.name dr.params dr.body dr.scope pm cd doc) ⟨vs, []⟩ = pure (ps.zip vs))
    (hlen : ps.length = ds.length := by rfl)
    (hnd : ps.Nodup := by decide)
    (hkind : (ps.all fun x => dr.scope.names.lookup x == some .local || dr.scope.names.lookup x == some .cell) = true := by rfl)
    (hco : dr.scope.isCoroutine = false := by rfl) (hgen : dr.scope.isGenerator = false := by rfl) (hk : dr.scope.kind = .function := by rfl) : FS fs cs dr (n + 1) ds d := by
  intro prog w mg mb A R s gl a o pm cd doc ho hd hcd vs hvs Q E hQ
  have hlv : vs.length = ds.length := hvs.len
  have hkp : ∀ x ∈ ps, dr.scope.names.lookup x = some .local ∨ dr.scope.names.lookup x = some .cell := fun x hx => by
    have := List.all_eq_true.mp hkind x hx
    simpa using this
  have hfst : (ps.zip vs).map (·.1) = ps := by rw [List.map_fst_zip]; omega
  refine wpAny_call (call_cells_ret (by have := R.depth; omega) ho hd gl.nolimit hcd (hbind vs pm cd doc hlv) (fun x hx => ?_) (fun h₁ tk F X => ?_) hco hgen hk)
  · have hx' : x.1 ∈ ps := by rw [← hfst]; exact List.mem_map_of_mem hx
    rcases hkp x.1 hx' with h | h
    · exact .inl h
    · exact .inr ⟨h, cellsFrom_has _ _ _ (.inl h)⟩
  · let j := J.fn prog w mg mb fs cs dr s.heap.objs.size a cd s.heap n (A.deeper (envOfC dr.name dr.scope s.heap.objs.size a cd))
    have hdead : ∀ b, avC j.cx (sto0 ps ds) b → ¬ Live s.heap b := by
      rintro b ((rfl | ⟨_, x, e⟩ | ⟨x, dd, e⟩) | q)
      · exact new_dead
      · rintro ⟨o, ho⟩
        exact Nat.lt_irrefl _ (Nat.lt_trans (Heap.lt_size ho) (X.above x b (mem_of_lookup e)))
      · exact (sto0_own e).elim
      · exact q.elim
    have ok : Ok j := ⟨hk, rfl, rfl, gl, R.deeper⟩
    have F₀ : Fm j.cx (sto0 ps ds) { s with heap := h₁, toks := tk } := by
      refine ⟨F.keep, hdead, fun _ q => q, fun _ q => q.elim, ⟨_, F.ns, fun x sv e => ?_⟩, fun x c e => ⟨_, X.cell x c e⟩, fun x y c e e' => name_of_addr X.apart (mem_of_lookup e) (mem_of_lookup e'), fun x y c dd dd' e => (sto0_own e).elim⟩
      obtain ⟨d', v', rfl, hm, hr⟩ := sto0_get hvs e
      have hx : x ∈ ps := by rw [← hfst]; exact List.mem_map_of_mem (f := (·.1)) hm
      have hr' : RV (avC j.cx (sto0 ps ds)) h₁ d' v' := hr.move (fun b o _ e => F.keep b o e) fun b q => .inr (hdead b q)
      refine ⟨v', ?_, hr'⟩
      rcases hkp x hx with h | h
      · exact .inl ⟨h, bindL_in (by rw [hfst]; exact hnd) hm h⟩
      · obtain ⟨c, hc⟩ := Option.isSome_iff_exists.mp (cellsFrom_has dr.scope.names (s.heap.objs.size + 1) [] (.inl h))
        have h3 := X.cell x c hc
        rw [bindC_in (by rw [hfst]; exact hnd) hm h] at h3
        exact .inr ⟨.inl h, c, hc, h3⟩
    have x₀ : Ext s { s with heap := h₁, toks := tk } := Ext.heap F.keep
    have fin : ∀ v s', Stp j.cx (sto0 ps ds) (sto0 ps ds) { s with heap := h₁, toks := tk } s' ∨ Chg (mutC j.cx (sto0 ps ds)) { s with heap := h₁, toks := tk } s' → RV (Live s.heap) s'.heap d v → Q v s' := fun v s' st hv => by
      have c : Chg (mutC j.cx (sto0 ps ds)) { s with heap := h₁, toks := tk } s' := st.elim (·.chg) id
      exact hQ v s' (x₀.next c fun b q => .inr (hdead b (.inl q))) hv
    refine wpAny_mono (hbody prog w mg mb s.heap.objs.size a cd s.heap (A.deeper (envOfC dr.name dr.scope s.heap.objs.size a cd)) ok _ F₀ (fun f s' => Q (match f with | .ret v => v | _ => .none) s') (fun _ _ => False) fun rf f σ' s' hp hf st => ?_) (fun f s' hq => hq) fun _ _ e => e
    rcases hp with rfl | ⟨rfl, rfl⟩
    · cases f <;> first | exact fin _ _ (.inr st.chg) hf | (cases hf)
    · cases f <;> first | exact fin _ _ (.inr st.chg) (RV.none_iff.mpr rfl) | (cases hf)

section
variable {j : J} {σ : Sto} {md : Md} {e : PySem.Expr} {es : List PySem.Expr} {d : PyData} {ds : List PyData} {pos np : Pos}

/-- a call of one of the program's functions -/
theorem pe_call {dr : DefRec} {m : Nat} (hf : FS j.fs j.cs dr m ds d) (hm : m ≤ j.n) (hdr : dr ∈ j.fs) (h : PEs j σ md (e :: es) ds) {x : Str} (hx : x = dr.name) (hk : j.env.kindOf x = some .globalImplicit)
    (hs : starEach (e :: es) j.env = (false, eval e j.env) :: starEach es j.env := by rfl)
    (he : eval (.Call (.Name x np) (e :: es) [] pos) j.env = (do callWith pos (← eval (.Name x np) j.env) [] (backTo pos (starEach (e :: es) j.env)) (backToKw pos (keywordEach [] j.env))) := by rfl)
    (hd : (x == ("__debug__" : Str)) = false := by decide) : PE j σ .fresh (.Call (.Name x np) (e :: es) [] pos) d :=
  fun ok s F Q E hQ => by
    subst hx
    obtain ⟨a, o, pm, cd, doc, hm', ho, hdat, hcd⟩ := ok.gl.fn dr hdr
    refine Call_ (Name_function_global ok.kind hk (loadGlobal_global (mg := j.mg) (by rw [ok.glo]; exact ok.gl.g.keeps F.keep) hm' ?_) hd) he
    refine callWith_def (o := o) hdat (h ok s F pos _ _ fun vs s₁ x₁ hv => ?_) hs
    have hk₁ : ∀ b o, j.base.get? b = some o → s₁.heap.get? b = some o := fun b o e => x₁.get (F.keep b o e)
    exact ⟨hk₁ _ _ ho, hf j.prog j.w j.mg j.mb j.A (ok.rm.le hm) s₁ (ok.gl.keeps hk₁) a o pm cd doc (hk₁ _ _ ho) hdat (hcd.keeps hk₁) vs (hv.thin fun _ q => q.elim) _ _ fun v s' x' hv' =>
      hQ v s' (x₁.thenExt x') (hv'.thin fun b q => x₁.live q)⟩
end

theorem bind1 {dr : DefRec} {p : Str} (h : ∀ v pm cd doc, bindArgs (docDef dr.name dr.params dr.body dr.scope pm cd doc) ⟨[v], []⟩ = pure [(p, v)]) :
    ∀ vs pm cd doc, vs.length = 1 → bindArgs (docDef dr.name dr.params dr.body dr.scope pm cd doc) ⟨vs, []⟩ = pure ([p].zip vs) := fun vs pm cd doc hl => by
  obtain ⟨v, rfl⟩ := List.length_eq_one_iff.mp hl
  exact h v pm cd doc
theorem bind2 {dr : DefRec} {p q : Str} (h : ∀ v u pm cd doc, bindArgs (docDef dr.name dr.params dr.body dr.scope pm cd doc) ⟨[v, u], []⟩ = pure [(p, v), (q, u)]) :
    ∀ vs pm cd doc, vs.length = 2 → bindArgs (docDef dr.name dr.params dr.body dr.scope pm cd doc) ⟨vs, []⟩ = pure ([p, q].zip vs) := fun vs pm cd doc hl => by
  cases vs with
  | nil => cases hl
  | cons v r =>
    obtain ⟨u, rfl⟩ := List.length_eq_one_iff.mp (Nat.succ.inj hl)
    exact h v u pm cd doc
end Pm

end
section
open PySem PySem.Calls PyProof.Rows
set_option Elab.async false
set_option linter.unusedVariables false
namespace Pm

/-- a text by its signs -/
abbrev S (l : List Nat) : Str := ⟨l.toArray⟩
theorem S_len (l : List Nat) : (S l).length = l.length := by show l.toArray.size = _; simp
theorem S_app (a b : List Nat) : S a ++ S b = S (a ++ b) := by
  show Str.append (S a) (S b) = _
  simp [Str.append, S]
theorem S_inj {a b : List Nat} (h : S a = S b) : a = b := by
  have := congrArg Str.cps h
  simpa using this
theorem S_beq (a b : List Nat) : (S a == S b) = (a == b) := by
  rw [Bool.eq_iff_iff]; simp only [beq_iff_eq]; exact ⟨S_inj, fun h => by rw [h]⟩
theorem S_of (x : Str) : x = S x.cps.toList := by cases x; simp [S]

def Cop (n : Nat) (prog : Program) (w : World) (op : CmpOp) (d₁ d₂ : PyData) (b : Bool) : Prop :=
  ∀ (A : Around), Rm n A → ∀ (s : Shared) (v₁ v₂ : Value) (Q : Value → Shared → Prop) (E : Value → Shared → Prop), RV Nowhere s.heap d₁ v₁ → RV Nowhere s.heap d₂ v₂ →
    (∀ s', Ext s s' → Q (.bool b) s') → wpAny (model prog w) A (compareOp op v₁ v₂) Q E s

section
variable {n : Nat} {prog : Program} {w : World} {a b : Int} {x y : Str}

theorem c_eq_int : Cop n prog w .Eq (.int a) (.int b) (a == b) := fun A _ s v₁ v₂ Q E r₁ r₂ hQ => by
  obtain ⟨t, rfl⟩ := RV.int_iff.mp r₁; obtain ⟨u, rfl⟩ := RV.int_iff.mp r₂; exact PyProof.Rows.eq_int (hQ _ (Chg.refl _))
theorem c_ne_int : Cop n prog w .NotEq (.int a) (.int b) (a != b) := fun A _ s v₁ v₂ Q E r₁ r₂ hQ => by
  obtain ⟨t, rfl⟩ := RV.int_iff.mp r₁; obtain ⟨u, rfl⟩ := RV.int_iff.mp r₂; exact PyProof.Rows.ne_int (hQ _ (Chg.refl _))
theorem c_lt_int : Cop n prog w .Lt (.int a) (.int b) (decide (a < b)) := fun A _ s v₁ v₂ Q E r₁ r₂ hQ => by
  obtain ⟨t, rfl⟩ := RV.int_iff.mp r₁; obtain ⟨u, rfl⟩ := RV.int_iff.mp r₂; exact PyProof.Rows.lt_int (hQ _ (Chg.refl _))
theorem c_eq_str : Cop n prog w .Eq (.str x) (.str y) (x == y) := fun A _ s v₁ v₂ Q E r₁ r₂ hQ => by
  obtain ⟨t, rfl⟩ := RV.str_iff.mp r₁; obtain ⟨u, rfl⟩ := RV.str_iff.mp r₂; exact PyProof.Rows.eq_str (hQ _ (Chg.refl _))
theorem c_ne_str : Cop n prog w .NotEq (.str x) (.str y) (x != y) := fun A _ s v₁ v₂ Q E r₁ r₂ hQ => by
  obtain ⟨t, rfl⟩ := RV.str_iff.mp r₁; obtain ⟨u, rfl⟩ := RV.str_iff.mp r₂; exact PyProof.Rows.ne_str (hQ _ (Chg.refl _))
theorem c_in_str : Cop n prog w .In (.str y) (.str x) (Txt.contains x y) := fun A _ s v₁ v₂ Q E r₁ r₂ hQ => by
  obtain ⟨t, rfl⟩ := RV.str_iff.mp r₁; obtain ⟨u, rfl⟩ := RV.str_iff.mp r₂; exact PyProof.Rows.in_str (hQ _ (Chg.refl _))
theorem c_notin_str : Cop n prog w .NotIn (.str y) (.str x) (!Txt.contains x y) := fun A _ s v₁ v₂ Q E r₁ r₂ hQ => by
  obtain ⟨t, rfl⟩ := RV.str_iff.mp r₁; obtain ⟨u, rfl⟩ := RV.str_iff.mp r₂; exact PyProof.Rows.notIn_str (hQ _ (Chg.refl _))
theorem c_is_none_none : Cop n prog w .Is .none .none true := fun A _ s v₁ v₂ Q E r₁ r₂ hQ => by
  obtain rfl := RV.none_iff.mp r₁; obtain rfl := RV.none_iff.mp r₂; exact PyProof.Rows.is_none_none (hQ _ (Chg.refl _))
theorem c_is_int_none : Cop n prog w .Is (.int a) .none false := fun A _ s v₁ v₂ Q E r₁ r₂ hQ => by
  obtain ⟨t, rfl⟩ := RV.int_iff.mp r₁; obtain rfl := RV.none_iff.mp r₂; exact PyProof.Rows.is_none_ne (by intro x; cases x) (hQ _ (Chg.refl _))
theorem c_is_bool {c d : Bool} : Cop n prog w .Is (.bool c) (.bool d) (c == d) := fun A _ s v₁ v₂ Q E r₁ r₂ hQ => by
  obtain rfl := RV.bool_iff.mp r₁; obtain rfl := RV.bool_iff.mp r₂; exact PyProof.Rows.is_bool (hQ _ (Chg.refl _))

theorem strsAre {Z : Addr → Prop} {h : Heap} : ∀ {ys : List Str} {vs : List Value}, RVs Z h (ys.map .str) vs → StrsAre vs ys
  | [], vs, r => by have := RVs.nil_iff.mp r; subst this; exact .nil
  | y :: ys, vs, r => by
    obtain ⟨v, r', rfl, hv, hr⟩ := RVs.cons_iff.mp r
    obtain ⟨t, rfl⟩ := RV.str_iff.mp hv
    exact .cons y t (strsAre hr)
theorem intsAre {Z : Addr → Prop} {h : Heap} : ∀ {ys : List Int} {vs : List Value}, RVs Z h (ys.map .int) vs → IntsAre vs ys
  | [], vs, r => by have := RVs.nil_iff.mp r; subst this; exact .nil
  | y :: ys, vs, r => by
    obtain ⟨v, r', rfl, hv, hr⟩ := RVs.cons_iff.mp r
    obtain ⟨t, rfl⟩ := RV.int_iff.mp hv
    exact .cons y t (intsAre hr)

theorem c_in_list {ys : List Str} : Cop n prog w .In (.str x) (.list (ys.map .str)) (ys.any (· == x)) := fun A _ s v₁ v₂ Q E r₁ r₂ hQ => by
  obtain ⟨t, rfl⟩ := RV.str_iff.mp r₁
  obtain ⟨a, vs, rfl, _, hl, hr⟩ := RV.list_iff.mp r₂
  exact in_list_strs (vs := vs.toList) hl.isList (strsAre hr) (hQ _ (Chg.refl _))

mutual
theorem eqv_refl : ∀ d : PyData, d.canLay0 = true → PyData.eqv d d = true
  | .none, _ => by simp [PyData.eqv]
  | .bool _, _ => by simp [PyData.eqv]
  | .int _, _ => by simp [PyData.eqv]
  | .str _, _ => by simp [PyData.eqv]
  | .list xs, h => by
    simp only [PyData.eqv]
    first | exact eqvAll_refl xs h | simp [eqvAll_refl xs h]
  | .tuple xs, h => by
    simp only [PyData.eqv]
    first | exact eqvAll_refl xs h | simp [eqvAll_refl xs h]
  | .dict _, h => by simp [PyData.canLay0] at h
theorem eqvAll_refl : ∀ ds : List PyData, PyData.canLayAll0 ds = true → PyData.eqvAll ds ds = true
  | [], _ => by simp [PyData.eqvAll]
  | d :: ds, h => by
    have h' : d.canLay0 = true ∧ PyData.canLayAll0 ds = true := by simpa [PyData.canLayAll0] using h
    simp [PyData.eqvAll, eqv_refl d h'.1, eqvAll_refl ds h'.2]
end

theorem c_deep_ne {d : PyData} (h : SeqAt.shaped d = true) : Cop n prog w .NotEq d d false := fun A R s v₁ v₂ Q E r₁ r₂ hQ => by
  obtain ⟨as, h₁⟩ := r₁.reads; obtain ⟨bs, h₂⟩ := r₂.reads
  refine SeqAt.compareNe_shaped h₁ h₂ h h (by have := R.units; omega) ?_
  rw [eqv_refl d (SeqAt.canLay_of_shaped h)]; exact hQ _ (Chg.refl _)
theorem c_deep_eq {d : PyData} (h : SeqAt.shaped d = true) : Cop n prog w .Eq d d true := fun A R s v₁ v₂ Q E r₁ r₂ hQ => by
  obtain ⟨as, h₁⟩ := r₁.reads; obtain ⟨bs, h₂⟩ := r₂.reads
  refine SeqAt.compareEq_shaped h₁ h₂ h h (by have := R.units; omega) ?_
  rw [eqv_refl d (SeqAt.canLay_of_shaped h)]; exact hQ _ (Chg.refl _)
end

section
variable {j : J} {σ : Sto} {md md₁ md₂ : Md} {e e₁ e₂ : PySem.Expr} {d d₁ d₂ : PyData} {pos : Pos} {b b₁ b₂ : Bool}

theorem pe_c {op : CmpOp} (h₁ : PE j σ md₁ e₁ d₁) (h₂ : PE j σ md₂ e₂ d₂) (c : Cop j.n j.prog j.w op d₁ d₂ b) (hm : behindInMarks op e₂ = false := by with_unfolding_all rfl) : PE j σ .fresh (.Compare e₁ [op] [e₂] pos) (.bool b) := pe_cmp h₁ h₂ c hm
theorem pb_c {op : CmpOp} (h₁ : PE j σ md₁ e₁ d₁) (h₂ : PE j σ md₂ e₂ d₂) (c : Cop j.n j.prog j.w op d₁ d₂ b) (hm : behindInMarks op e₂ = false := by with_unfolding_all rfl) : PB j σ (.Compare e₁ [op] [e₂] pos) b := pb_cmp h₁ h₂ c hm

theorem PB.at {b : Bool} (h : PB j σ e b) (ok : Ok j) {s s₁ : Shared} (F : Fm j.cx σ s) (x : Ext s s₁) {Q : Bool → Shared → Prop} {E : Value → Shared → Prop}
    (hQ : ∀ s', Ext s₁ s' → Q b s') : wpAny (model j.prog j.w) j.A (isTrue e j.env (eval e j.env)) Q E s₁ := h ok s₁ (F.ext x) Q E hQ
theorem isTrue_whole_and {es : List PySem.Expr} {env : Env} {whole whole' : Sem Value} : isTrue (.BoolOp .And es pos) env whole = isTrue (.BoolOp .And es pos) env whole' := rfl
theorem pb_or2 (h₁ : PB j σ e₁ b₁) (h₂ : b₁ = false → PB j σ e₂ b₂) (hb : b = (b₁ || b₂)) : PB j σ (.BoolOp .Or [e₁, e₂] pos) b := fun ok s F Q E hQ => isTrue_or (h₁ ok s F _ _ fun s₁ x₁ => by
  subst hb
  cases b₁ with
  | true => exact hQ s₁ x₁
  | false => exact isTrue_or ((h₂ rfl).at ok F x₁ fun s₂ x₂ => by
      cases b₂ with
      | true => exact hQ s₂ (x₁.thenExt x₂)
      | false => exact isTrue_or_nil (hQ s₂ (x₁.thenExt x₂))))
theorem pe_ifexp {test : PySem.Expr} (h : PB j σ test b) (ht : b = true → PE j σ md e₁ d) (hf : b = false → PE j σ md e₂ d) : PE j σ md (.IfExp test e₁ e₂ pos) d := fun ok s F Q E hQ =>
  IfExp_ (h ok s F _ _ fun s₁ x₁ => by
    cases b with
    | true => exact (ht rfl).at ok F x₁ fun v s' x hv => hQ v s' (x₁.thenExt x) hv
    | false => exact (hf rfl).at ok F x₁ fun v s' x hv => hQ v s' (x₁.thenExt x) hv)
/-- and of two bools, as a value -/
theorem pe_andB (h₁ : PE j σ md₁ e₁ (.bool b₁)) (h₂ : b₁ = true → PE j σ md₂ e₂ (.bool b₂)) (hb : b = (b₁ && b₂)) : PE j σ .fresh (.BoolOp .And [e₁, e₂] pos) (.bool b) := fun ok s F Q E hQ =>
  BoolOp_and (h₁ ok s F _ _ fun v s₁ x₁ hv => by
    subst hb
    obtain rfl := RV.bool_iff.mp hv
    refine wpAny_truthy_bool ?_
    cases b₁ with
    | false => exact hQ _ s₁ x₁ (RV.bool_iff.mpr rfl)
    | true => exact BoolOp_one ((h₂ rfl).at ok F x₁ fun v₂ s₂ x₂ hv₂ => hQ v₂ s₂ (x₁.thenExt x₂) (RV.bool_iff.mpr (RV.bool_iff.mp hv₂))))
theorem pe_not (h : PE j σ md e (.bool b)) : PE j σ .fresh (.UnaryOp .Not e pos) (.bool (!b)) := fun ok s F Q E hQ =>
  UnaryOp_ (h ok s F _ _ fun v s₁ x₁ hv => by obtain rfl := RV.bool_iff.mp hv; exact not_of (wpAny_truthy_bool (hQ _ s₁ x₁ (RV.bool_iff.mpr rfl))))
theorem pe_neg {i : Int} (h : PE j σ md e (.int i)) : PE j σ .fresh (.UnaryOp .USub e pos) (.int (-i)) := fun ok s F Q E hQ =>
  UnaryOp_ (h ok s F _ _ fun v s₁ x₁ hv => by obtain ⟨t, rfl⟩ := RV.int_iff.mp hv; exact PyProof.Rows.neg_int (hQ _ _ (x₁.thenExt (Ext.toks _)) (RV.int_iff.mpr ⟨_, rfl⟩)))
end
end Pm

end
section
open PySem PySem.Calls PyProof.Rows
set_option Elab.async false
set_option linter.unusedVariables false
namespace Pm

theorem tail_any {prog : Program} {w : World} {A : Around} {E : Value → Shared → Prop} {s : Shared} {value slice : PySem.Expr} {o i : Value} {T id : String} {Q : Value → Shared → Prop} (hT : s.TypeIs o T)
    (hl : typeLookup (.type T) "__getitem__" = pure (some (.builtin id))) (h : wpAny (model prog w) A (getItem o i) Q E s) : wpAny (model prog w) A (subscriptTail value slice o i) Q E s := by
  unfold subscriptTail
  refine wpAny_bind ?_
  rw [getitemInPython_of_ne hT.not_modules]
  refine wpAny_bind (wpAny_specialOf hT hl ?_)
  have fin : wpAny (model prog w) A (subscripted slice false o i) (fun r s₃ => wpAny (model prog w) A (letTemporaryGo value o r >>= fun _ => pure r) Q E s₃) E s := by
    have key : ∀ ops, wpAny (model prog w) A (operate ops (getItem o i)) (fun r s₃ => wpAny (model prog w) A (letTemporaryGo value o r >>= fun _ => pure r) Q E s₃) E s := fun ops =>
      wpAny_operating (wpAny_mono h (fun r s₃ h₃ => wpAny_bind (wpAny_letTemporaryGo (wpAny_pure h₃))) fun _ _ x => x)
    cases slice
    case Slice lo hi st ps => cases st <;> exact key _
    all_goals exact key _
  first
    | exact wpAny_pure (wpAny_bind fin)
    | exact wpAny_bind (wpAny_pure (wpAny_bind fin))
    | exact wpAny_bind fin

section
variable {j : J} {σ : Sto} {md md₁ md₂ : Md} {e e₁ e₂ value slice : PySem.Expr} {d d₁ d₂ : PyData} {ds : List PyData} {pos : Pos} {b b₁ b₂ : Bool} {i : Int} {l : List Nat} {x y : Str}

theorem pe_idxStr {c : Nat} (h₁ : PE j σ md₁ value (.str (S l))) (h₂ : PE j σ md₂ slice (.int i)) (h0 : 0 ≤ i) (hi : i < 1000000) (hc : l[i.toNat]? = some c) : PE j σ .fresh (.Subscript value slice pos) (.str (S [c])) :=
  fun ok s F Q E hQ => Subscript_ (h₁ ok s F _ _ fun v₁ s₁ x₁ hv₁ => h₂.at ok F x₁ fun v₂ s₂ x₂ hv₂ => by
    obtain ⟨t, rfl⟩ := RV.str_iff.mp hv₁
    obtain ⟨u, rfl⟩ := RV.int_iff.mp hv₂
    refine tail_any (typeIs_str _ _ _) slot_str_getitem.lookup (PyProof.Rows.getItem_str (c := c) ?_ ?_ (hQ _ _ (x₁.thenExt (x₂.thenExt (Ext.toks _))) (RV.str_iff.mpr ⟨_, rfl⟩)))
    · have h1 : ¬ i < -(2 ^ 63 : Int) := by omega
      have h2 : ¬ i ≥ 2 ^ 63 := by omega
      rw [decide_eq_false h1, decide_eq_false h2]; rfl
    · have hlt : i.toNat < l.length := (List.getElem?_eq_some_iff.mp hc).1
      rw [StrLaws.seqIndex_nonneg h0 (by rw [S_len]; omega)]
      show (S l).cps[i.toNat]? = _
      simpa [S] using hc)

theorem pe_idxList (h₁ : PE j σ md value (.list ds)) (h₂ : PE j σ md₂ slice (.int i)) (h0 : 0 ≤ i) (hi : i < 1000000) (hc : ds[i.toNat]? = some d) : PE j σ md (.Subscript value slice pos) d :=
  fun ok s F Q E hQ => Subscript_ (h₁ ok s F _ _ fun v₁ s₁ x₁ hv₁ => h₂.at ok F x₁ fun v₂ s₂ x₂ hv₂ => by
    obtain ⟨a, vs, rfl, hz, hl, hr⟩ := RV.list_iff.mp hv₁
    obtain ⟨u, rfl⟩ := RV.int_iff.mp hv₂
    obtain ⟨v, hv, hd⟩ := hr.get hc
    have hl₂ : s₂.heap.PlainList a vs := hl.at fun o e => x₂.get e
    exact tail_any hl₂.isList.typeIs slot_list_getitem.lookup (wpAny_getItem_list hl₂.isList h0 (by omega) (by rw [← Array.getElem?_toList]; exact hv) (hQ _ _ (x₁.thenExt x₂) (hd.ext x₂))))
theorem pe_idxLast (h₁ : PE j σ md value (.list (ds ++ [d]))) (h₂ : PE j σ md₂ slice (.int (-1))) : PE j σ md (.Subscript value slice pos) d :=
  fun ok s F Q E hQ => Subscript_ (h₁ ok s F _ _ fun v₁ s₁ x₁ hv₁ => h₂.at ok F x₁ fun v₂ s₂ x₂ hv₂ => by
    obtain ⟨a, vs, rfl, hz, hl, hr⟩ := RV.list_iff.mp hv₁
    obtain ⟨u, rfl⟩ := RV.int_iff.mp hv₂
    have hlen := hr.len
    have hc : (ds ++ [d])[ds.length]? = some d := by simp
    obtain ⟨v, hv, hd⟩ := hr.get hc
    have hl₂ : s₂.heap.PlainList a vs := hl.at fun o e => x₂.get e
    have hsz : vs.size = ds.length + 1 := by rw [← Array.length_toList, hlen]; simp
    exact tail_any hl₂.isList.typeIs slot_list_getitem.lookup (wpAny_getItem_list_neg hl₂.isList (by omega) (by omega) (by omega) (by
      rw [← Array.getElem?_toList, ← hv]; congr 1; omega) (hQ _ _ (x₁.thenExt x₂) (hd.ext x₂))))
theorem pe_idxTuple (h₁ : PE j σ md value (.tuple ds)) (h₂ : PE j σ md₂ slice (.int i)) (h0 : 0 ≤ i) (hi : i < 1000000) (hc : ds[i.toNat]? = some d) : PE j σ md (.Subscript value slice pos) d :=
  fun ok s F Q E hQ => Subscript_ (h₁ ok s F _ _ fun v₁ s₁ x₁ hv₁ => h₂.at ok F x₁ fun v₂ s₂ x₂ hv₂ => by
    obtain ⟨a, vs, rfl, hz, hl, hr⟩ := RV.tuple_iff.mp hv₁
    obtain ⟨u, rfl⟩ := RV.int_iff.mp hv₂
    obtain ⟨v, hv, hd⟩ := hr.get hc
    obtain ⟨o, ho, hoc, n, hod⟩ := hl
    have ht : IsTup s₂.heap a vs := ⟨o, x₂.get ho, hoc, n, hod⟩
    have hlt : i.toNat < vs.size := by
      rw [← Array.length_toList]; exact (List.getElem?_eq_some_iff.mp hv).1
    exact tail_any ht.typeIs slot_tuple_getitem.lookup (getItem_tuple ht (by omega) (by omega) (StrLaws.seqIndex_nonneg h0 (by omega)) (by rw [← Array.getElem?_toList]; exact hv) (hQ _ _ (x₁.thenExt x₂) (hd.ext x₂))))

/-- a part of a slice -/
def PSl (j : J) (σ : Sto) (p : Option PySem.Expr) (i : Option Int) : Prop :=
  Ok j → ∀ s, Fm j.cx σ s → ∀ (Q : Value → Shared → Prop) (E : Value → Shared → Prop), (∀ (u : Option (Int × Tok)) s', u.map (·.1) = i → Ext s s' → Q (partValue u) s') → wpAny (model j.prog j.w) j.A (evalPart p j.env) Q E s
theorem psl_none : PSl j σ none none := fun ok s F Q E hQ => evalPart_none_step (hQ none s rfl (Chg.refl _))
theorem psl_some (h : PE j σ md e (.int i)) : PSl j σ (some e) (some i) := fun ok s F Q E hQ => evalPart_some_step (h ok s F _ _ fun v s' x hv => by
  obtain ⟨t, rfl⟩ := RV.int_iff.mp hv; exact hQ (some (i, t)) s' rfl x)

theorem eval_slice {lo hi st : Option PySem.Expr} {il ih is : Option Int} {p : Pos} (hl : PSl j σ lo il) (hh : PSl j σ hi ih) (hs : PSl j σ st is) (ok : Ok j) {s : Shared} (F : Fm j.cx σ s) {Q : Value → Shared → Prop} {E : Value → Shared → Prop}
    (hQ : ∀ (u v w : Option (Int × Tok)) s', u.map (·.1) = il → v.map (·.1) = ih → w.map (·.1) = is → Ext s s' →
      Q (.ref s'.heap.objs.size) { s' with heap := s'.heap.push { cls := .type "slice", data := .fields #[partValue u, partValue v, partValue w] } }) :
    wpAny (model j.prog j.w) j.A (eval (.Slice lo hi st p) j.env) Q E s :=
  wpAny_Slice (hl ok s F _ _ fun u s₁ e₁ x₁ => hh ok s₁ (F.ext x₁) _ _ fun v s₂ e₂ x₂ => hs ok s₂ ((F.ext x₁).ext x₂) _ _ fun w s₃ e₃ x₃ => hQ u v w s₃ e₁ e₂ e₃ (x₁.thenExt (x₂.thenExt x₃)))

theorem pe_sliceStr {lo hi : Option PySem.Expr} {il ih : Option Int} {p : Pos} (h : PE j σ md value (.str x)) (hl : PSl j σ lo il) (hh : PSl j σ hi ih) (hz : x.length ≤ 1000000) : PE j σ .fresh (.Subscript value (.Slice lo hi none p) pos) (.str (Txt.slice x il ih)) :=
  fun ok s F Q E hQ => Subscript_ (h ok s F _ _ fun v₁ s₁ x₁ hv₁ => eval_slice hl hh psl_none ok (F.ext x₁) fun u v w s₂ eu ev ew x₂ => by
    obtain ⟨t, rfl⟩ := RV.str_iff.mp hv₁
    have : w = none := by cases w with | none => rfl | some q => cases ew
    subst this eu ev
    have hz' : x.length ≤ sizeLine := by have e : sizeLine = 16777216 := by decide
                                         omega
    refine tail_any (typeIs_str _ _ _) PySem.F.slot_str_getitem.lookup (wpAny_getItem_str_slice (l := u) (u := v) (st := none) ⟨_, Heap.get?_push_size _ rfl, rfl, rfl⟩ rfl
      (post_val_or_str ⟨Nat.le_trans (Txt.slice_le x _ _) hz', fun t' k => hQ _ _ (x₁.thenExt (x₂.thenExt ((Ext.push _).thenExt (Ext.heap fun _ _ e => e)))) (RV.str_iff.mpr ⟨_, rfl⟩)⟩)))

/-- a slice of a list of data -/
def sliceD (ds : List PyData) (lo hi st : Option Int) : List PyData :=
  (sliceRange (sliceBounds lo hi st ds.length).1 (sliceBounds lo hi st ds.length).2.1 (sliceBounds lo hi st ds.length).2.2).filterMap (ds[·]?)
theorem RVs.pick {Z : Addr → Prop} {h : Heap} {ds : List PyData} {vs : List Value} (r : RVs Z h ds vs) : ∀ ix : List Nat, RVs Z h (ix.filterMap (ds[·]?)) (ix.filterMap (vs[·]?))
  | [] => .nil
  | k :: ix => by
    rw [List.filterMap_cons, List.filterMap_cons]
    cases hd : ds[k]? with
    | none =>
      have : vs[k]? = none := by rw [List.getElem?_eq_none_iff] at hd ⊢; rw [r.len]; exact hd
      rw [this]; exact r.pick ix
    | some d => obtain ⟨v, hv, hr⟩ := r.get hd; rw [hv]; exact .cons hr (r.pick ix)
theorem isPart (u : Option (Int × Tok)) : IsPart (partValue u) (u.map (·.1)) := by
  cases u with
  | none => exact .none
  | some p => exact .int _ _
theorem pe_sliceList {lo hi st : Option PySem.Expr} {il ih is : Option Int} {p : Pos} (h : PE j σ md value (.list ds)) (hl : PSl j σ lo il) (hh : PSl j σ hi ih) (hst : PSl j σ st is) (h0 : is ≠ some 0) (hz : ds.length ≤ 1000000) (hsc : ∀ d ∈ ds, scal d = true) :
    PE j σ .fresh (.Subscript value (.Slice lo hi st p) pos) (.list (sliceD ds il ih is)) :=
  fun ok s F Q E hQ => Subscript_ (h ok s F _ _ fun v₁ s₁ x₁ hv₁ => eval_slice hl hh hst ok (F.ext x₁) fun u v w s₂ eu ev ew x₂ => by
    obtain ⟨a, vs, rfl, hza, hpl, hr⟩ := RV.list_iff.mp hv₁
    subst eu ev ew
    have hz' : vs.size ≤ sizeLine := by
      have e : sizeLine = 16777216 := by decide
      have := hr.len
      rw [Array.length_toList] at this
      omega
    have hl₂ : (s₂.heap.push { cls := .type "slice", data := .fields #[partValue u, partValue v, partValue w] }).PlainList a vs := hpl.at fun o e => Heap.get?_push_of_some _ (x₂.get e)
    refine tail_any (Heap.IsList.typeIs (s := { s₂ with heap := s₂.heap.push { cls := .type "slice", data := .fields #[partValue u, partValue v, partValue w] } }) hl₂.isList) list_getitem_lookup
      (wpAny_getItem_list_slice hl₂.isList (Heap.IsSliceOf.new ..) (isPart u) (isPart v) (isPart w) h0 (hQ _ _ (x₁.thenExt (x₂.thenExt ((Ext.push _).thenExt (Ext.push _)))) (RV.list_iff.mpr ⟨_, _, rfl, ?_, ⟨_, Heap.get?_push_size _ rfl⟩, ?_⟩)) hz')
    · exact fun q => new_dead ((x₁.thenExt (x₂.thenExt (Ext.push _))).live q)
    · have e1 : (slicePick vs (u.map (·.1)) (v.map (·.1)) (w.map (·.1))).toList = (sliceRange (sliceBounds (u.map (·.1)) (v.map (·.1)) (w.map (·.1)) vs.size).1 (sliceBounds (u.map (·.1)) (v.map (·.1)) (w.map (·.1)) vs.size).2.1 (sliceBounds (u.map (·.1)) (v.map (·.1)) (w.map (·.1)) vs.size).2.2).filterMap (vs.toList[·]?) := by
        unfold slicePick; simp
      have e2 : ds.length = vs.size := by rw [← hr.len, Array.length_toList]
      rw [e1]
      unfold sliceD
      rw [e2]
      exact (RVs.scal hsc hr).pick _)

/-- a method of a text or a list -/
theorem pe_lenStr {np : Pos} (h : PE j σ md e (.str x)) (hz : x.length ≤ 1000000) (hk : j.env.kindOf "len" = some .globalImplicit := by rfl)
    (hs : starEach [e] j.env = (false, eval e j.env) :: starEach [] j.env := by rfl) (he : eval (.Call (.Name "len" np) [e] [] pos) j.env = (do callWith pos (← eval (.Name "len" np) j.env) [] (backTo pos (starEach [e] j.env)) (backToKw pos (keywordEach [] j.env))) := by rfl) :
    PE j σ .fresh (.Call (.Name "len" np) [e] [] pos) (.int x.length) := fun ok s F Q E hQ =>
  Call_ (ev_builtin ok F (by simp) hk (f := .builtin "len") (by decide +kernel) (by decide) (by decide) (callWith_builtin1 (pes_cons h pes_nil hs ok s F pos _ _ fun vs s₁ x₁ hvs => by
    obtain ⟨v, r, rfl, hv, hn⟩ := RVs.cons_iff.mp hvs
    obtain rfl := RVs.nil_iff.mp hn
    obtain ⟨t, rfl⟩ := RV.str_iff.mp hv
    exact PyProof.Rows.len_str (by omega) (hQ _ _ (x₁.thenExt (Ext.toks _)) (RV.int_iff.mpr ⟨_, rfl⟩))) hs)) he
theorem pe_lenList {np : Pos} (h : PE j σ md e (.list ds)) (hz : ds.length ≤ 1000000) (hk : j.env.kindOf "len" = some .globalImplicit := by rfl)
    (hs : starEach [e] j.env = (false, eval e j.env) :: starEach [] j.env := by rfl) (he : eval (.Call (.Name "len" np) [e] [] pos) j.env = (do callWith pos (← eval (.Name "len" np) j.env) [] (backTo pos (starEach [e] j.env)) (backToKw pos (keywordEach [] j.env))) := by rfl) :
    PE j σ .fresh (.Call (.Name "len" np) [e] [] pos) (.int ds.length) := fun ok s F Q E hQ =>
  Call_ (ev_builtin ok F (by simp) hk (f := .builtin "len") (by decide +kernel) (by decide) (by decide) (callWith_builtin1 (pes_cons h pes_nil hs ok s F pos _ _ fun vs s₁ x₁ hvs => by
    obtain ⟨v, r, rfl, hv, hn⟩ := RVs.cons_iff.mp hvs
    obtain rfl := RVs.nil_iff.mp hn
    obtain ⟨a, us, rfl, _, hl, hr⟩ := RV.list_iff.mp hv
    have hsz : us.size = ds.length := by rw [← Array.length_toList, hr.len]
    refine PyProof.Rows.len_list hl.isList (by omega) ?_
    rw [hsz]; exact hQ _ _ (x₁.thenExt (Ext.toks _)) (RV.int_iff.mpr ⟨_, rfl⟩)) hs)) he
theorem pe_sum {np : Pos} {ns : List Int} (h : PE j σ md e (.list (ns.map .int))) (hk : j.env.kindOf "sum" = some .globalImplicit := by rfl)
    (hs : starEach [e] j.env = (false, eval e j.env) :: starEach [] j.env := by rfl) (he : eval (.Call (.Name "sum" np) [e] [] pos) j.env = (do callWith pos (← eval (.Name "sum" np) j.env) [] (backTo pos (starEach [e] j.env)) (backToKw pos (keywordEach [] j.env))) := by rfl) :
    PE j σ .fresh (.Call (.Name "sum" np) [e] [] pos) (.int ns.sum) := fun ok s F Q E hQ =>
  Call_ (ev_builtin ok F (by simp) hk boot_sum (by decide) (by decide) (callWith_builtin1 (pes_cons h pes_nil hs ok s F pos _ _ fun vs s₁ x₁ hvs => by
    obtain ⟨v, r, rfl, hv, hn⟩ := RVs.cons_iff.mp hvs
    obtain rfl := RVs.nil_iff.mp hn
    obtain ⟨a, us, rfl, _, hl, hr⟩ := RV.list_iff.mp hv
    have hi := intsAre hr
    obtain ⟨xs, e'⟩ := hi.allInts.items
    have e'' : us = intItems xs := by rw [← e']
    have hsum : preSum (numAt xs) xs.size = ns.sum := by
      have h2 := hi.numsOf
      rw [e'', nums_intItems] at h2
      rw [preSum_eq, List.take_of_length_le (by simp), h2]
    rw [e''] at hl
    refine sum_intListG ok.rm.handled hl.isList fun h' tk t' hk => ?_
    rw [hsum]
    exact hQ _ _ (x₁.thenExt (Ext.heap hk)) (RV.int_iff.mpr ⟨_, rfl⟩)) hs)) he

theorem pe_join {o : PySem.Expr} {ap : Pos} {ys : List Str} {pl : Sem Bool} (h₁ : PE j σ md₁ o (.str x)) (h₂ : PE j σ md₂ e (.list (ys.map .str))) (hz : (ys.map (·.length)).sum + ys.length * x.length ≤ 16777216)
    (hs : starEach [e] j.env = (false, eval e j.env) :: starEach [] j.env := by rfl)
    (he : eval (.Call (.Attribute o "join" ap) [e] [] pos) j.env = (do
      let ov ← eval o j.env
      standAt ap.atName
      let (f, first) ← holding [ov] (getMethod ov "join" pl)
      callWith pos f first (backTo pos (starEach [e] j.env)) []) := by rfl) : PE j σ .fresh (.Call (.Attribute o "join" ap) [e] [] pos) (.str (Txt.join x ys)) := fun ok s F Q E hQ =>
  MethodCall_ (pl := pl) (h₁ ok s F _ _ fun v s₁ x₁ hv => by
    obtain ⟨t, rfl⟩ := RV.str_iff.mp hv
    with_reducible refine PySem.GM.join ?_
    show wpAny _ _ (callWith pos (.builtin "str.join") [.str x t] (backTo pos (starEach [e] j.env)) []) Q E s₁
    refine (callWith_method1 (pes_cons h₂ pes_nil hs ok s₁ (F.ext x₁) pos _ _ fun vs s₂ x₂ hvs => ?_) hs rfl)
    obtain ⟨v, r, rfl, hv₂, hn⟩ := RVs.cons_iff.mp hvs
    obtain rfl := RVs.nil_iff.mp hn
    obtain ⟨a, us, rfl, _, hl, hr⟩ := RV.list_iff.mp hv₂
    exact join_list hl.isList (strsAre hr) hz fun t' k => hQ _ _ (x₁.thenExt (x₂.thenExt (Ext.toks _))) (RV.str_iff.mpr ⟨_, rfl⟩)) he

theorem pe_count {o : PySem.Expr} {ap : Pos} {pl : Sem Bool} (h₁ : PE j σ md₁ o (.str x)) (h₂ : PE j σ md₂ e (.str y))
    (hs : starEach [e] j.env = (false, eval e j.env) :: starEach [] j.env := by rfl)
    (he : eval (.Call (.Attribute o "count" ap) [e] [] pos) j.env = (do
      let ov ← eval o j.env
      standAt ap.atName
      let (f, first) ← holding [ov] (getMethod ov "count" pl)
      callWith pos f first (backTo pos (starEach [e] j.env)) []) := by rfl) : PE j σ .fresh (.Call (.Attribute o "count" ap) [e] [] pos) (.int (Txt.count x y)) := fun ok s F Q E hQ =>
  MethodCall_ (pl := pl) (h₁ ok s F _ _ fun v s₁ x₁ hv => by
    obtain ⟨t, rfl⟩ := RV.str_iff.mp hv
    with_reducible refine PySem.GM.count ?_
    show wpAny _ _ (callWith pos (.builtin "str.count") [.str x t] (backTo pos (starEach [e] j.env)) []) Q E s₁
    refine (callWith_method1 (pes_cons h₂ pes_nil hs ok s₁ (F.ext x₁) pos _ _ fun vs s₂ x₂ hvs => ?_) hs rfl)
    obtain ⟨v, r, rfl, hv₂, hn⟩ := RVs.cons_iff.mp hvs
    obtain rfl := RVs.nil_iff.mp hn
    obtain ⟨u, rfl⟩ := RV.str_iff.mp hv₂
    exact SC.count (hQ _ _ (x₁.thenExt (x₂.thenExt (Ext.toks _))) (RV.int_iff.mpr ⟨_, rfl⟩))) he
end
end Pm

end
section
open PySem PySem.Calls PyProof.Rows
set_option Elab.async false
set_option linter.unusedVariables false
namespace Pm

section
variable {j : J} {σ : Sto} {md md₁ md₂ : Md} {e e₁ e₂ value slice : PySem.Expr} {d d₁ d₂ : PyData} {ds : List PyData} {pos : Pos} {b b₁ b₂ : Bool} {i : Int} {l : List Nat} {x y : Str}

/-- a list of scalars laid at the end of the call's own -/
theorem s1_extend {xp ap cp : Pos} {a : Addr} {ds ds' : List PyData} {pl : Sem Bool} (hx : σ.lookup x = some (.own a ds)) (h : PE j σ md e (.list ds')) (hsc : ∀ d ∈ ds', scal d = true) (hz : ds.length + ds'.length < 1000)
    (hs : starEach [e] j.env = (false, eval e j.env) :: starEach [] j.env := by rfl)
    (he : eval (.Call (.Attribute (.Name x xp) "extend" ap) [e] [] cp) j.env = (do
      let ov ← eval (.Name x xp) j.env
      standAt ap.atName
      let (f, first) ← holding [ov] (getMethod ov "extend" pl)
      callWith cp f first (backTo cp (starEach [e] j.env)) []) := by rfl)
    (hd : (x == ("__debug__" : Str)) = false := by decide) (hc : (x == ("__classdict__" : Str)) = false := by decide) :
    S1 j σ (.Expr (.Call (.Attribute (.Name x xp) "extend" ap) [e] [] cp) pos) fun rf τ => rf = .next ∧ τ = (x, .own a (ds ++ ds')) :: σ :=
  fun ok s F Q E hQ => by
    refine wpAny_Expr (MethodCall_ (pl := pl) (wpAny_Name (load_own ok F hx hc fun vs hl hv => ?_) hd) he) (interactive_no ok) rfl
    with_reducible refine getMethod_list_of PySem.F.slot_list_extend PySem.F.type_list_extend hl.isList ?_ ?_
    · obtain ⟨n, ho⟩ := hl; exact ⟨_, ho, rfl⟩
    · show wpAny _ _ (callWith cp (.builtin "list.extend") [.ref a] (backTo cp (starEach [e] j.env)) []) _ E s
      refine callWith_method1 (pes_cons h pes_nil hs ok s F cp _ _ fun vs₁ s₁ x₁ hv₁ => ?_) hs rfl
      obtain ⟨v, r, rfl, hv₂, hn⟩ := RVs.cons_iff.mp hv₁
      obtain rfl := RVs.nil_iff.mp hn
      obtain ⟨b, us, rfl, _, hlb, hr⟩ := RV.list_iff.mp hv₂
      obtain ⟨vs₂, hl₂, hr₂⟩ := own_isL (F.ext x₁) hx
      refine extend_plain hl₂ hlb (fun h' hl' hs' => ?_) (by
        have h1 := hr₂.len
        have h2 := hr.len
        rw [Array.length_toList] at h1 h2
        have e : sizeLine = 16777216 := by decide
        omega)
      refine hQ .next .next _ _ ⟨rfl, rfl⟩ trivial ((Stp.ext F x₁).trans (fm_regrow (F.ext x₁) hx hs' hl' ?_))
      rw [Array.toList_append]
      exact hr₂.append (hr.scal hsc)

theorem flat_rep (l : List Nat) (n : Nat) : (⟨(List.replicate n (S l).cps).foldl (· ++ ·) #[]⟩ : Str) = S (List.replicate n l).flatten := by
  have key : ∀ (n : Nat) (acc : Array Nat), (List.replicate n (S l).cps).foldl (· ++ ·) acc = acc ++ (List.replicate n l).flatten.toArray := by
    intro n
    induction n with
    | zero => intro acc; simp
    | succ n ih => intro acc; rw [List.replicate_succ, List.foldl_cons, ih, List.replicate_succ, List.flatten_cons]; simp [S]
  rw [key]; simp [S]
theorem pe_mulStr {n : Nat} (h₁ : PE j σ md₁ e₁ (.str (S l))) (h₂ : PE j σ md₂ e₂ (.int n)) (hn : n ≤ 1000) (hl : l.length ≤ 1000) : PE j σ .fresh (.BinOp e₁ .Mult e₂ pos) (.str (S (List.replicate n l).flatten)) :=
  pe_bin h₁ h₂ fun A _ s v₁ v₂ Q E r₁ r₂ hQ => by
    obtain ⟨t, rfl⟩ := RV.str_iff.mp r₁; obtain ⟨u, rfl⟩ := RV.int_iff.mp r₂
    have hprod : l.length * n ≤ 1000 * 1000 := Nat.mul_le_mul hl hn
    refine P.mul_str ?_ (fun h1 _ hb => ?_) (fun _ _ => ?_) ?_
    · rw [decide_eq_false (show ¬ ((n : Int) < -(2 ^ 63 : Int)) by omega), decide_eq_false (show ¬ ((n : Int) ≥ 2 ^ 63) by omega)]; rfl
    · rw [S_len] at hb
      have h2 : (2 ^ 63 - 1 : Int) / n ≥ 1000 := by
        have h3 : (1 : Int) ≤ n := by omega
        have : (1000 : Int) ≤ (2 ^ 63 - 1) / n := by
          apply (Int.le_ediv_iff_mul_le (by omega)).mpr
          have : (n : Int) ≤ 1000 := by omega
          omega
        exact this
      omega
    · rw [S_len]; show decide (l.length * n > 16777216) = false; exact decide_eq_false (by omega)
    · by_cases h1 : ((n : Nat) : Int) < 1
      · rw [if_pos h1]
        have : n = 0 := by omega
        subst this
        exact ⟨by decide, hQ _ _ (Ext.toks _) (RV.str_iff.mpr ⟨_, rfl⟩)⟩
      · rw [if_neg h1]
        by_cases h2 : (((n : Nat) : Int) == 1 || (S l).length == 0) = true
        · rw [if_pos h2]
          have e : S (List.replicate n l).flatten = S l := by
            rw [S_len] at h2
            rcases Bool.or_eq_true_iff.mp h2 with h3 | h3
            · have : n = 1 := by have := beq_iff_eq.mp h3; omega
              subst this; simp
            · have : l = [] := List.length_eq_zero_iff.mp (beq_iff_eq.mp h3)
              subst this; simp
          rw [e] at hQ
          exact hQ _ _ (Chg.refl _) (RV.str_iff.mpr ⟨_, rfl⟩)
        · rw [if_neg h2]
          rw [show ((n : Nat) : Int).toNat = n from Int.toNat_natCast n, flat_rep]
          refine ⟨?_, hQ _ _ (Ext.toks _) (RV.str_iff.mpr ⟨_, rfl⟩)⟩
          rw [S_len, List.length_flatten]
          have e : sizeLine = 16777216 := by decide
          simp
          rw [Nat.mul_comm] at hprod
          omega

/-- x = x.replace(y, z), from a state whose tokens have begun -/
theorem se_replace {xp xp' ap cp p₁ p₂ : Pos} {k₁ k₂ : Nat} {z : Str} {v : Str} {rest : List Stmt} {P : RF → Sto → Prop} {pl : Sem Bool} {c : Prop} (hx : σ.lookup v = some (.dat (.str x))) (hc' : c) (hyz : (y == z) = false) (hb : x.length + (x.length + 1) * z.length ≤ 16777216)
    (hsx : Storable j.env v) (hn : SE j ((v, .dat (.str (Txt.replace x y z))) :: σ) rest P)
    (hs : starEach [.Constant (.str y) k₁ p₁, .Constant (.str z) k₂ p₂] j.env = (false, eval (.Constant (.str y) k₁ p₁) j.env) :: starEach [.Constant (.str z) k₂ p₂] j.env := by rfl)
    (hs' : starEach [.Constant (.str z) k₂ p₂] j.env = (false, eval (.Constant (.str z) k₂ p₂) j.env) :: starEach [] j.env := by rfl)
    (he : eval (.Call (.Attribute (.Name v xp') "replace" ap) [.Constant (.str y) k₁ p₁, .Constant (.str z) k₂ p₂] [] cp) j.env = (do
      let ov ← eval (.Name v xp') j.env
      standAt ap.atName
      let (f, first) ← holding [ov] (getMethod ov "replace" pl)
      callWith cp f first (backTo cp (starEach [.Constant (.str y) k₁ p₁, .Constant (.str z) k₂ p₂] j.env)) []) := by rfl)
    (hsw : swapsWith (.Call (.Attribute (.Name v xp') "replace" ap) [.Constant (.str y) k₁ p₁, .Constant (.str z) k₂ p₂] [] cp) (some (.Name v xp)) pos.line j.env = pure false := by rfl)
    (hd : (v == ("__debug__" : Str)) = false := by decide) (hc : (v == ("__classdict__" : Str)) = false := by decide) :
    SEt c j σ (.Assign [.Name v xp] (.Call (.Attribute (.Name v xp') "replace" ap) [.Constant (.str y) k₁ p₁, .Constant (.str z) k₂ p₂] [] cp) pos :: rest) P :=
  fun ok s F ht Q E hQ => by
    have ht' := ht hc'
    refine wpAny_execs_cons (wpAny_Assign_Name (MethodCall_ (pl := pl) (wpAny_Name (load_dat ok F hx hc fun v hv => ?_) hd) he) hsw)
    obtain ⟨t, rfl⟩ := RV.str_iff.mp hv
    with_reducible refine PySem.GM.replace ?_
    show wpAny _ _ (callWith cp (.builtin "str.replace") [.str x t] (backTo cp (starEach [.Constant (.str y) k₁ p₁, .Constant (.str z) k₂ p₂] j.env)) []) _ E s
    refine callWith_method1 (wpAny_items_cons (wpAny_Constant_str (wpAny_items_cons (wpAny_Constant_str (wpAny_items_nil ?_)) hs')) hs) hs (by rw [hs']; rfl)
    have h1 : s.toks ≠ 0 := Nat.ne_of_gt ht'
    refine SC.replace h1 (Nat.succ_ne_zero _) (Nat.ne_of_lt (Nat.lt_succ_self _)) hyz hb fun t' k => ?_
    have x₁ : Ext s { s with toks := k } := Ext.toks _
    refine fm_store ok (F.ext x₁) hsx (RV.str_iff.mpr ⟨_, rfl⟩) fun s' F' C => ?_
    exact hn ok s' F' _ _ fun rf f σ'' s'' hp hf st => hQ rf f σ'' s'' hp hf ((⟨F', Chg.extThen x₁ C, fun b q => .inl (mut_put q)⟩ : Stp j.cx σ _ s s').trans st)
end
end Pm

end
section
open PySem PySem.Calls PyProof.Rows
set_option Elab.async false
set_option linter.unusedVariables false
namespace Pm

/-- a stretch of a generator's run: to its next yield, or to its end -/
def Sg (M : Model) (A : Around) (Φ : End → Shared → Prop) (c : Code) (t : Sem Fin) (fs : List Frame) (s : Shared) : Prop :=
  ∀ (Γ : Ctx) (p : Pos), Γ.code = c → Γ.Woken A → ∃ e s', Runs M Γ p t fs s e s' ∧ Φ e s'

section
variable {M : Model} {A : Around} {Φ : End → Shared → Prop} {c : Code} {fs : List Frame} {s : Shared} {env : Env} {K : Flow → Sem Fin} {H : Value → Sem Fin} {gd : Bool → Bool} {lv : List Value → List Value}

theorem sg_wrap {α : Type} {m : Sem α} {K : α → Sem Fin} {H : Value → Sem Fin} {gd lv} (h : wpAny M (A.over c fs) m (fun a s' => Sg M A Φ c (K a) fs s') (fun _ _ => False) s) : Sg M A Φ c (m.wrap K H gd lv) fs s := by
  rintro Γ p rfl hΓ
  exact runs_wrap_of_wp K H gd lv m (h (Γ.over fs) p (hΓ.over fs)) (fun a p' s' h' => h' Γ p' rfl hΓ) (fun x p' s' h' => h'.elim)
theorem bind_wrap {α β : Type} (m : Sem α) (f : α → Sem β) (K : β → Sem Fin) (H : Value → Sem Fin) (gd lv) : (m >>= f).wrap K H gd lv = m.wrap (fun a => (f a).wrap K H gd lv) H gd lv := by
  rw [Sem.bind_eq_wrap', Sem.wrap_wrap]; rfl
theorem sg_bind {α β : Type} {m : Sem α} {f : α → Sem β} {K : β → Sem Fin} {H : Value → Sem Fin} {gd lv} (h : wpAny M (A.over c fs) m (fun a s' => Sg M A Φ c ((f a).wrap K H gd lv) fs s') (fun _ _ => False) s) : Sg M A Φ c ((m >>= f).wrap K H gd lv) fs s := by
  rw [bind_wrap]; exact sg_wrap h
theorem sg_at {p' : Pos} {k : Unit → Sem Fin} (h : Sg M A Φ c (k ()) fs s) : Sg M A Φ c (.at p' k) fs s :=
  sg_wrap (m := standAt p') (K := k) (H := .raise) (gd := id) (lv := id) (wpAny_standAt h)
theorem sg_point {l : List Value} {k : Unit → Sem Fin} (h : Sg M A Φ c (k ()) fs s) : Sg M A Φ c (.point l k) fs s :=
  sg_wrap (m := point) (K := k) (H := .raise) (gd := id) (lv := fun _ => l) (wpAny_point h)
theorem sg_call {c' : Code} {h g l} {k : Result → Sem Fin} (hc : ∀ p, Sg M A Φ c' (M.den c') (.ret k h g l c p [] :: fs) s) : Sg M A Φ c (.call c' h g l k) fs s := by
  rintro Γ p rfl hΓ
  obtain ⟨e, s', hr, he⟩ := hc p (Γ.goto c') p rfl (hΓ.goto c')
  exact ⟨e, s', runs_call_seg hr, he⟩
theorem sg_leaf {k h g l c₁ p₁ kp} (r : Result) (hk : Sg M A Φ c₁ (k r) fs s) : Sg M A Φ c (leafOf r) (.ret k h g l c₁ p₁ kp :: fs) s := by
  rintro Γ p rfl hΓ
  obtain ⟨e, s', hr, he⟩ := hk (Γ.goto c₁) p₁ rfl (hΓ.goto c₁)
  exact ⟨e, s', Runs.pop r hr, he⟩
theorem sg_again {c' : Code} (hq : c'.quiet = true) (hc : Sg M A Φ c' (M.den c') fs s) : Sg M A Φ c (.pure (.again c')) fs s := by
  rintro Γ p rfl hΓ
  obtain ⟨e, s', hr, he⟩ := hc (Γ.goto c') p rfl (hΓ.goto c')
  exact ⟨e, s', Runs.head (c₁ := c') (fun _ _ x => .again hq x) hr, he⟩
theorem sg_end (r : Result) (h : Φ (.ret r) s) : Sg M A Φ c (leafOf r) [] s := by
  rintro Γ p rfl _
  exact ⟨.ret r, s, Runs.leaf r, h⟩
theorem sg_yield {v g l} {k : Resume → Sem Fin} (hfs : splitAtGen fs = none) (h : ∀ p, Φ (.susp v g l k c p fs) s) : Sg M A Φ c (.yield v g l k) fs s := by
  rintro Γ p rfl _
  exact ⟨_, s, Runs.yield' fs hfs, h p⟩

theorem sg_nil (h : Sg M A Φ c (K .next) fs s) : Sg M A Φ c ((execs [] env).wrap K H gd lv) fs s := h
theorem sg_cons {st : Stmt} {rest : List Stmt} (h : Sg M A Φ c ((exec st env).wrap (fun f => match f with | .next => (execs rest env).wrap K H gd lv | f => K f) H gd lv) fs s) :
    Sg M A Φ c ((execs (st :: rest) env).wrap K H gd lv) fs s := by rw [execs_cons_wrap]; exact h

theorem sg_Expr_Yield {e : PySem.Expr} {ypos pos : Pos} (hfs : splitAtGen fs = none)
    (h : wpAny M (A.over c fs) (eval e env) (fun v s' => ∀ p l (k : Resume → Sem Fin), (∀ Φ' s'', Sg M A Φ' c (K .next) fs s'' → Sg M A Φ' c (k (.send .none)) fs s'') → Φ (.susp v (gd false) l k c p fs) s') (fun _ _ => False) s)
    (hco : env.scope.isCoroutine = false) (hi : interactive env = false) : Sg M A Φ c ((exec (.Expr (.Yield (some e) ypos) pos) env).wrap K H gd lv) fs s := by
  rw [exec_Expr env _ pos hi rfl]
  show Sg M A Φ c (.at pos fun _ => ((eval e env >>= fun v => (standAt ypos >>= fun _ => yieldOut env v)) >>= fun x => dropValue (.Yield (some e) ypos) pos x).wrap K H gd lv) fs s
  have hy : ∀ v, yieldOut env v = yieldValue v := fun v => by simp only [yieldOut, hco, Bool.false_eq_true, if_false]
  simp only [hy]
  refine sg_at ?_
  rw [bind_wrap, bind_wrap]
  refine sg_wrap (wpAny_mono h (fun v s' h' => ?_) fun _ _ x => x)
  refine sg_at (sg_yield hfs fun p => ?_)
  refine h' p _ _ fun Φ' s'' hx => ?_
  exact hx

theorem sg_If {test : PySem.Expr} {body orelse : List Stmt} {pos : Pos}
    (h : wpAny M (A.over c fs) (isTrue test env (eval test env)) (fun b s' => Sg M A Φ c ((if b then execs body env else execs orelse env).wrap K H gd lv) fs s') (fun _ _ => False) s) :
    Sg M A Φ c ((exec (.If test body orelse pos) env).wrap K H gd lv) fs s := by
  rw [PySem.exec_If]
  refine sg_bind (wpAny_standAt ?_)
  refine sg_bind (wpAny_mono h (fun b s' h' => ?_) fun _ _ x => x)
  exact h'
end

section
variable {prog : Program} {w : World} {A : Around} {Φ : End → Shared → Prop} {c : Code} {fs : List Frame} {s : Shared} {env : Env} {K : Flow → Sem Fin} {H : Value → Sem Fin} {gd : Bool → Bool} {lv : List Value → List Value}

theorem sg_func {body : List Stmt} (h : Sg (model prog w) A Φ (.func body env) ((execs body env).wrap (fun f => .pure (.done (.ret (match f with | .ret v => v | _ => .none)))) (fun e => (leaving env e).wrap (fun _ => .raise e) .raise id id) id id) fs s) :
    Sg (model prog w) A Φ (.func body env) ((model prog w).den (.func body env)) fs s := by
  show Sg _ A Φ _ (.point [] fun _ => ((execs body env).onRaise (leaving env)) >>= _) fs s
  refine sg_point ?_
  rw [Sem.onRaise_eq_wrap, Sem.bind_eq_wrap', Sem.wrap_wrap]
  rw [Sem.wrap_congr (execs body env) _ _ (K' := fun f => .pure (.done (.ret (match f with | .ret v => v | _ => .none))))
    (H' := fun e => (leaving env e).wrap (fun _ => .raise e) .raise id id) (fun f => by cases f <;> rfl)
    (fun e => by rw [Sem.bind_eq_wrap, Sem.wrap_wrap]; rfl)]
  exact h

/-- the loop's statement: the drawing goes on in a frame of its own -/
theorem sg_For {tgt iter : PySem.Expr} {body orelse : List Stmt} {pos : Pos}
    (h : wpAny (model prog w) (A.over c fs) (eval iter env) (fun x s₁ => wpAny (model prog w) (A.over c fs) (pyIter x) (fun it s₂ => ∀ (k : Result → Sem Fin) l p, (∀ Φ' s₃, Sg (model prog w) A Φ' c (K .next) fs s₃ → Sg (model prog w) A Φ' c (k (.ok .next)) fs s₃) →
      Sg (model prog w) A Φ (.forLoop tgt it body orelse env) ((model prog w).den (.forLoop tgt it body orelse env)) (.ret k none (gd false) l c p [] :: fs) s₂) (fun _ _ => False) s₁) (fun _ _ => False) s)
    (hs : ∀ x, foldedSetIterable iter env x = pure x := by intro _; rfl) : Sg (model prog w) A Φ c ((exec (.For tgt iter body orelse pos) env).wrap K H gd lv) fs s := by
  rw [PySem.exec_For]
  refine sg_bind (wpAny_standAt ?_)
  refine sg_bind (wpAny_mono h (fun x s₁ h₁ => ?_) fun _ _ x => x)
  refine sg_bind (wpAny_of_eq (hs x) ?_)
  refine sg_bind (wpAny_standAt ?_)
  refine sg_bind (wpAny_holding (wpAny_mono h₁ (fun it s₂ h₂ => ?_) fun _ _ x => x))
  refine sg_call fun p => h₂ _ _ p fun Φ' s₃ h₃ => h₃

theorem sg_forLoop {tgt : PySem.Expr} {body : List Stmt} {it : Value}
    (h : wpAny (model prog w) (A.over (.forLoop tgt it body [] env) fs) (pyNext it) (fun r s₁ => match r with
      | none => Sg (model prog w) A Φ (.block [] env) (leafOf (.ok .next)) fs s₁
      | some v => wpAny (model prog w) (A.over (.forLoop tgt it body [] env) fs) (letOwnedTupleGo tgt it v) (fun _ s₂ => wpAny (model prog w) (A.over (.forLoop tgt it body [] env) fs) (assign tgt env v) (fun _ s₃ =>
          ∀ (K : Flow → Sem Fin) (H : Value → Sem Fin), (∀ Φ' s₄, Sg (model prog w) A Φ' (.forLoop tgt it body [] env) ((model prog w).den (.forLoop tgt it body [] env)) fs s₄ → Sg (model prog w) A Φ' (.forLoop tgt it body [] env) (K .next) fs s₄) →
            Sg (model prog w) A Φ (.forLoop tgt it body [] env) ((execs body env).wrap K H id id) fs s₃) (fun _ _ => False) s₂) (fun _ _ => False) s₁) (fun _ _ => False) s) :
    Sg (model prog w) A Φ (.forLoop tgt it body [] env) ((model prog w).den (.forLoop tgt it body [] env)) fs s := by
  show Sg _ A Φ _ ((forTurn tgt it body [] env).onRaise (fun x => do noteFrame x env; theTreesLotGoes x)) fs s
  rw [Sem.onRaise_eq_wrap]
  unfold forTurn
  refine sg_bind (wpAny_standAt ?_)
  refine sg_bind (wpAny_onRaise (wpAny_mono h (fun r s₁ h₁ => ?_) fun _ _ x => x.elim))
  cases r with
  | none => exact sg_again rfl h₁
  | some v =>
    refine sg_bind (wpAny_mono h₁ (fun _ s₂ h₂ => ?_) fun _ _ x => x)
    refine sg_bind (wpAny_mono h₂ (fun _ s₃ h₃ => ?_) fun _ _ x => x)
    rw [bind_wrap]
    exact h₃ _ _ fun Φ' s₄ h₄ => sg_again rfl h₄

/-- a statement that yields nothing -/
theorem sg_stmt {j : J} {σ : Sto} {st : Stmt} {rest : List Stmt} {σ' : Sto} (hj : j.A = A.over c fs) (ok : Ok j) (F : Fm j.cx σ s) (h : S1 j σ st fun rf τ => rf = .next ∧ τ = σ')
    (hn : ∀ s', Stp j.cx σ σ' s s' → s.heap.objs.size ≤ s'.heap.objs.size → Sg (model j.prog j.w) A Φ c ((execs rest j.env).wrap K H gd lv) fs s') : Sg (model j.prog j.w) A Φ c ((execs (st :: rest) j.env).wrap K H gd lv) fs s := by
  refine sg_cons (sg_wrap ?_)
  rw [← hj]
  refine sized (h ok s F _ _ fun rf f τ s' hp hf st hs => ?_)
  obtain ⟨rfl, rfl⟩ := hp
  cases f <;> first | exact hn s' st hs | (cases hf)

def GoesS (M : Model) (A : Around) (Φ : End → Shared → Prop) (gs : GenState) (s : Shared) : Prop :=
  match gs with
  | .fresh c => Sg M A Φ c (M.den c) [] s
  | .suspended k _ c _ fs _ => Sg M A Φ c (k (.send .none)) fs s
  | _ => False

theorem resume_sg {M : Model} {E : Value → Shared → Prop} {g : Nat} {gs : GenState} {l : List Value} {α : Type} {k : GenResult → Sem α} {Q : α → Shared → Prop} (hg : s.gens[g]? = some gs)
    (hgo : GoesS M A Φ gs (s.setGen g .running)) (hΦ : ∀ e s₁, Φ e s₁ → e.quiet = true ∧ wpAny M A (k e.result) Q E (s₁.setGen g e.genState)) : wpAny M A (.resume g (.send .none) l k) Q E s := by
  intro Γ p hΓ
  rw [Sem.wp_resume]
  have hB : ∀ c, (Γ.wake c p).Woken A := fun c => hΓ.wake c p
  cases gs with
  | fresh c =>
    obtain ⟨e₁, s₁, hr, he⟩ := hgo (Γ.wake c p) p rfl (hB c)
    exact ⟨_, _, by unfold Wakes; rw [hg]; exact ⟨e₁, s₁, hr, (hΦ e₁ s₁ he).1, rfl, rfl⟩, (hΦ e₁ s₁ he).2 Γ p hΓ⟩
  | suspended k₀ l₀ c₀ p₀ fs₀ cl =>
    obtain ⟨e₁, s₁, hr, he⟩ := hgo (Γ.wake c₀ p) p₀ rfl (hB c₀)
    exact ⟨_, _, by unfold Wakes; rw [hg]; exact ⟨e₁, s₁, hr, (hΦ e₁ s₁ he).1, rfl, rfl⟩, (hΦ e₁ s₁ he).2 Γ p hΓ⟩
  | running => exact hgo.elim
  | finished => exact hgo.elim

theorem next_sg {E : Value → Shared → Prop} {a : Addr} {g : Nat} {gs : GenState} {Q : Option Value → Shared → Prop} (hh : A.handled = none) (hl : s.heap.NoLimit) (hroom : A.depth < recursionLimit) (hg : s.heap.IsGen a g) (hgs : s.gens[g]? = some gs)
    (hgo : GoesS (model prog w) A.in1 Φ gs (s.setGen g .running))
    (hΦ : ∀ e s₁, Φ e s₁ → (e = .ret (.ok (.ret .none)) ∧ ∀ h', (∀ b o, s₁.heap.get? b = some o → h'.get? b = some o) → Q none { s₁.setGen g .finished with heap := h' }) ∨
      (∃ v g₀ l k c p fs, e = .susp v g₀ l k c p fs ∧ e.quiet = true ∧ Q (some v) (s₁.setGen g e.genState))) :
    wpAny (model prog w) A (pyNext (.ref a)) Q E s := by
  unfold pyNext
  refine wpAny_bind (wpAny_attempt (wpAny_callSpecial?_slot (name := Str.ofString "__next__") hg.typeIs slot_gen_next
    (wpAny_call_entry slot_gen_next hg.typeIs entry_gen_next ?_ (args_gen_next _))))
  show wpAny _ A.in1 (Builtin.Generator.genWake (.ref a) (.send .none)) _ _ s
  unfold Builtin.Generator.genWake
  refine wpAny_bind (wpAny_holding (wpAny_genNumber hg (wpAny_bind (wpAny_genState hgs ?_))))
  cases gs with
  | running => exact hgo.elim
  | finished => exact hgo.elim
  | _ =>
    refine wpAny_bind (wpAny_roomToWake hl hroom ?_)
    show wpAny _ A.in1 (.resume g (.send .none) [] _) _ _ s
    refine resume_sg hgs hgo fun e s₁ he => ?_
    rcases hΦ e s₁ he with ⟨rfl, hq⟩ | ⟨v, g₀, l, k, c, p, fs, rfl, hqu, hq⟩
    · refine ⟨rfl, ?_⟩
      show wpAny _ A.in1 (newExc (.type "StopIteration") [] >>= _) _ _ _
      refine wpAny_bind ?_
      simp only [newExc, newTuple]
      refine wpAny_bind (wpAny_newObj_type ?_ (by size_fits))
      refine wpAny_bind (m := firstArgMember _ _) (wpAny_of_eq (a := Value.none) (by first | rfl | (simp only [firstArgMember]; rfl)) ?_)
      refine wpAny_newObj_type ?_ (by size_fits)
      simp only [raiseNew]
      refine wpAny_bind (wpAny_bind (wpAny_handled ?_))
      first | rw [show A.in1.handled = none from hh] | rw [hh]
      refine wpAny_throw ?_
      refine wpAny_bind (wpAny_isInstance (T := "StopIteration") (b := true) ⟨_, Heap.get?_push_size _ rfl, rfl⟩ isSubtype_stop ?_)
      exact wpAny_pure (hq _ fun b o hb => Heap.get?_push_of_some _ (Heap.get?_push_of_some _ hb))
    · exact ⟨hqu, wpAny_pure ⟨v, rfl, wpAny_pure hq⟩⟩
end
end Pm

end
section
open PySem PySem.Calls PyProof.Rows
set_option Elab.async false
set_option linter.unusedVariables false
namespace Pm

/-- the units of a text: a backslash takes the sign behind it -/
def escs : Nat → Bool → List Nat → List (Nat × List Nat)
  | i, e, [] => if e then [(i - 1, [92])] else []
  | i, e, c :: r => if e then (i, [92, c]) :: escs (i + 1) false r else if c = 92 then escs (i + 1) true r else (i, [c]) :: escs (i + 1) false r
def unitD (u : Nat × List Nat) : PyData := .tuple [.int u.1, .str (S u.2)]
abbrev units (l : List Nat) : List (Nat × List Nat) := escs 0 false l

def Post (M : Model) (A : Around) (base : Heap) : List PyData → (Addr → Prop) → Shared → End → Shared → Prop
  | [], W, s₀, e, s' => e = .ret (.ok (.ret .none)) ∧ Chg W s₀ s'
  | d :: ds, W, s₀, e, s' => ∃ v g l k c p fs W', e = .susp v g l k c p fs ∧ e.quiet = true ∧ Chg W s₀ s' ∧ (∀ b, W' b → W b ∨ s₀.heap.objs.size ≤ b) ∧ s₀.heap.objs.size ≤ s'.heap.objs.size ∧ (∀ b, W' b → Live s'.heap b) ∧ RV (fun b => (Live s₀.heap b ∧ ¬ W b) ∨ W' b) s'.heap d v ∧
      ∀ s'', (∀ b o, W' b → s'.heap.get? b = some o → s''.heap.get? b = some o) → (∀ b o, base.get? b = some o → s''.heap.get? b = some o) → Sg M A (Post M A base ds W' s'') c (k (.send .none)) fs s''

theorem Fm.jump {c : Cx} {σ : Sto} {s s' : Shared} (F : Fm c σ s) (hσ : ∀ x sv, σ.lookup x = some sv → ∃ d, sv = .dat d ∧ scal d = true) (hc : c.env.cells = []) (hw : ∀ b o, avC c σ b → s.heap.get? b = some o → s'.heap.get? b = some o)
    (hb : ∀ b o, c.base.get? b = some o → s'.heap.get? b = some o) : Fm c σ s' := by
  obtain ⟨m, hn, hs⟩ := F.ns
  refine ⟨hb, F.dead, fun _ q => q, fun b q => let ⟨o, e⟩ := F.hole b q; ⟨o, hw b o (.inr q) e⟩, ⟨m, hn.at fun o e => hw _ o (.inl (.inl rfl)) e, fun x sv e => ?_⟩, fun x a e => (by rw [hc] at e; cases e), F.cellsApart, F.apart⟩
  obtain ⟨d, rfl, hd⟩ := hσ x sv e
  obtain ⟨v, H, hv⟩ := hs x _ e
  refine ⟨v, ?_, hv.scal hd⟩
  rcases H with h | ⟨_, a, ha, _⟩
  · exact .inl h
  · rw [hc] at ha; cases ha

/-- enumerate over a text, for every surrounding -/
theorem ev_enumStr {j : J} {σ : Sto} {md : Md} {e : PySem.Expr} {x : Str} {np pos : Pos} (ok : Ok j) {s : Shared} (F : Fm j.cx σ s) (h : PE j σ md e (.str x)) (hk : j.env.kindOf "enumerate" = some .globalImplicit)
    (hs : starEach [e] j.env = (false, eval e j.env) :: starEach [] j.env) (he : eval (.Call (.Name "enumerate" np) [e] [] pos) j.env = (do callWith pos (← eval (.Name "enumerate" np) j.env) [] (backTo pos (starEach [e] j.env)) (backToKw pos (keywordEach [] j.env))))
    {Q : Value → Shared → Prop} {E : Value → Shared → Prop}
    (hQ : ∀ s₁ Ea Si s' (P : Nat → Array Value → Prop) (St : Nat → Heap → Prop) (Mid : Nat → Addr → Heap → Prop), Ext s s₁ → Ext s₁ s' → s.heap.objs.size ≤ s₁.heap.objs.size → s₁.heap.objs.size ≤ s'.heap.objs.size → s₁.heap.objs.size ≤ Ea → s₁.heap.objs.size ≤ Si → (∀ A', A'.handled = none → WalksT j.prog j.w A' Ea [Ea, Si] [Ea, Si] x.cps.size P St Mid) →
      (∀ i vals, P i vals → ∃ c t u, x.cps[i]? = some c ∧ vals = #[.int (i : Int) t, .str ⟨#[c]⟩ u]) → (∀ i h, St i h → Live h Ea ∧ Live h Si) → St 0 s'.heap → Q (.ref Ea) s') :
    wpAny (model j.prog j.w) j.A (eval (.Call (.Name "enumerate" np) [e] [] pos) j.env) (fun xv s₁ => wpAny (model j.prog j.w) j.A (pyIter xv) Q E s₁) E s :=
  ev_calltype ok F (pes_cons h pes_nil hs) (by simp) hk boot_enumerate (by decide) (by decide) hs rfl he fun vs s₁ x₁ hz₁ hvs => by
    obtain ⟨v, r, rfl, hv, hnil⟩ := RVs.cons_iff.mp hvs
    obtain rfl := RVs.nil_iff.mp hnil
    obtain ⟨t, rfl⟩ := RV.str_iff.mp hv
    refine call_enumerate_str fun h' hE hI hsz hkp => ?_
    refine wpAny_pyIter_enum hE ?_
    have hne : s₁.heap.objs.size + 1 ≠ s₁.heap.objs.size := Nat.succ_ne_self _
    have hnm : s₁.heap.objs.size + 1 ∉ [s₁.heap.objs.size] := fun hm => hne (List.mem_singleton.mp hm)
    have hP : ∀ (i : Nat) (vals : Array Value), (∃ t' v, (∃ c u, x.cps[i]? = some c ∧ v = Value.str ⟨#[c]⟩ u) ∧ vals = #[Value.int (i : Int) t', v]) → ∃ c t u, x.cps[i]? = some c ∧ vals = #[.int (i : Int) t, .str ⟨#[c]⟩ u] := by
      rintro i vals ⟨t', v, ⟨c, u, hc, rfl⟩, rfl⟩; exact ⟨c, t', u, hc, rfl⟩
    have hd1 : ¬ Live s₁.heap (s₁.heap.objs.size + 1) := fun ⟨o, e⟩ => Nat.lt_irrefl _ (Nat.lt_trans (Nat.lt_succ_self _) (Heap.lt_size e))
    cases ha : x.cps.all (· < 128)
    · have hit' : h'.IsStrIter s₁.heap.objs.size "str_iterator" x t 0 := by simpa [strIterType, ha] using hI
      exact hQ s₁ _ _ { s₁ with heap := h' } _ _ _ x₁ (Ext.heap hkp) hz₁ (by show _ ≤ h'.objs.size; rw [hsz]; exact Nat.le_add_right _ _) (Nat.le_succ _) (Nat.le_refl _) (fun A' hA => WalksT.enumerateD (Draws.strWide (A := A'.in1) hA s₁.heap.objs.size x t) _ hne hnm (by simp)) hP
        (fun i h ⟨⟨old, hE⟩, ⟨o, ho, _⟩⟩ => ⟨⟨_, hE⟩, ⟨o, ho⟩⟩) ⟨⟨.none, hE⟩, hit'⟩
    · have hit' : h'.IsStrIter s₁.heap.objs.size "str_ascii_iterator" x t 0 := by simpa [strIterType, ha] using hI
      exact hQ s₁ _ _ { s₁ with heap := h' } _ _ _ x₁ (Ext.heap hkp) hz₁ (by show _ ≤ h'.objs.size; rw [hsz]; exact Nat.le_add_right _ _) (Nat.le_succ _) (Nat.le_refl _) (fun A' hA => WalksT.enumerateD (Draws.strAscii (A := A'.in1) hA s₁.heap.objs.size x t) _ hne hnm (by simp)) hP
        (fun i h ⟨⟨old, hE⟩, ⟨o, ho, _⟩⟩ => ⟨⟨_, hE⟩, ⟨o, ho⟩⟩) ⟨⟨.none, hE⟩, hit'⟩

/-- the generator's frame -/
structure GEnv (env : Env) : Prop where
  kind : env.scope.kind = .function
  co : env.scope.isCoroutine = false
  cells : env.cells = []
  glo : env.globals = mainGlobals
  blt : env.builtins = builtinsNs
  kaddr : env.kindOf "addr" = some .local
  kpos : env.kindOf "pos" = some .local
  kesc : env.kindOf "escape" = some .local
  kch : env.kindOf "ch" = some .local
  kenum : env.kindOf "enumerate" = some .globalImplicit

def gsto (l : List Nat) (e : Bool) (p : Int) : Sto := [("escape", .dat (.bool e)), ("pos", .dat (.int p)), ("addr", .dat (.str (S l)))]
theorem gsto_scal {l : List Nat} {e : Bool} {p : Int} : ∀ x sv, (gsto l e p).lookup x = some sv → ∃ d, sv = .dat d ∧ scal d = true := fun x sv h => by
  unfold gsto at h
  rcases lookup_put h with ⟨_, rfl⟩ | ⟨_, h⟩
  · exact ⟨_, rfl, rfl⟩
  · rcases lookup_put h with ⟨_, rfl⟩ | ⟨_, h⟩
    · exact ⟨_, rfl, rfl⟩
    · rcases lookup_put h with ⟨_, rfl⟩ | ⟨_, h⟩
      · exact ⟨_, rfl, rfl⟩
      · cases h

section
variable {prog : Program} {w : World} {mg mb : Str → Option Value} {FS' : List DefRec} {cs : List (Str × PyData)} {env : Env} {base : Heap} {A : Around} {l : List Nat}

abbrev gj (prog : Program) (w : World) (mg mb : Str → Option Value) (FS' : List DefRec) (cs : List (Str × PyData)) (env : Env) (base : Heap) (Hl : Addr → Prop) (A' : Around) : J :=
  { prog, w, mg, mb, fs := FS', cs, env, base, hole := Hl, n := 0, A := A' }

theorem g_mut (G : GEnv env) {Hl : Addr → Prop} {σ : Sto} (hσ : ∀ x sv, σ.lookup x = some sv → ∃ d, sv = .dat d ∧ scal d = true) (b : Addr) : mutC ⟨env, base, Hl⟩ σ b ↔ b = env.locals := by
  constructor
  · rintro (h | ⟨_, x, h⟩ | ⟨x, ds, h⟩)
    · exact h
    · have h' : env.cells.lookup x = some b := h
      rw [G.cells] at h'; cases h'
    · obtain ⟨d, h1, _⟩ := hσ x _ h; cases h1
  · exact fun h => .inl h
end
end Pm

end
section
open PySem PySem.Calls PyProof.Rows
set_option Elab.async false
set_option linter.unusedVariables false
namespace Pm

section
variable {j : J} {σ : Sto} {pos : Pos}
theorem pb_name {x : Str} {b : Bool} (hx : σ.lookup x = some (.dat (.bool b))) (hd : (x == ("__debug__" : Str)) = false := by decide) (hc : (x == ("__classdict__" : Str)) = false := by decide) : PB j σ (.Name x pos) b :=
  fun ok s F Q E hQ => isTrue_plain (pe_name hx hd hc ok s F _ _ fun v s' x' hv => by obtain rfl := RV.bool_iff.mp hv; exact wpAny_truthy_bool (hQ s' x'))
end

section
variable {prog : Program} {w : World} {A : Around} {c : Code} {fs : List Frame} {K : Flow → Sem Fin} {H : Value → Sem Fin} {lv : List Value → List Value} {j : J} {σ : Sto} {s₀ s : Shared} {W : Addr → Prop} {ds : List PyData} {d : PyData} {y : PySem.Expr} {yp p : Pos}

theorem g_yield (hfs : splitAtGen fs = none) (hq : fs.any Frame.guarded = false) (hPE : PE j σ .fresh y d) (ok : Ok j) (F : Fm j.cx σ s) (hj : j.A = A.over c fs) (hσ : ∀ x sv, σ.lookup x = some sv → ∃ d, sv = .dat d ∧ scal d = true) (hcl : j.env.cells = [])
    (hco : j.env.scope.isCoroutine = false) (C : Chg W s₀ s) (hsz : s₀.heap.objs.size ≤ s.heap.objs.size) (hW : ∀ b, avC j.cx σ b → W b ∨ s₀.heap.objs.size ≤ b)
    (hnext : ∀ s'', Fm j.cx σ s'' → (∀ b o, avC j.cx σ b → s.heap.get? b = some o → s''.heap.get? b = some o) → Sg (model j.prog j.w) A (Post (model j.prog j.w) A j.base ds (avC j.cx σ) s'') c (K .next) fs s'') :
    Sg (model j.prog j.w) A (Post (model j.prog j.w) A j.base (d :: ds) W s₀) c ((exec (.Expr (.Yield (some y) yp) p) j.env).wrap K H id lv) fs s := by
  refine sg_Expr_Yield hfs ?_ hco (interactive_no ok)
  rw [← hj]
  refine sized (hPE ok s F _ _ fun v s₁ x₁ hv hs₁ => ?_)
  intro p' l' k hk
  refine ⟨v, false, l', k, c, p', fs, avC j.cx σ, rfl, by simp [End.quiet, hq], C.thenExt x₁, hW, Nat.le_trans hsz hs₁, fun b q => x₁.live (F.avLive q), hv.thin fun b q => q.elim (fun ⟨⟨o, e⟩, hb⟩ => ⟨o, C.keep b o hb e⟩) F.avLive, fun s'' hw hb => ?_⟩
  · exact hk _ s'' (hnext s'' (Fm.jump (F.ext x₁) hσ hcl (fun b o q e => hw b o q e) hb) fun b o q e => hw b o q (x₁.get e))

/-- behind the loop -/
theorem g_tail {e : Bool} {q : Nat} {y3 : PySem.Expr} {a1 a2 a3 a4 : Pos} (he : σ.lookup ("escape" : Str) = some (.dat (.bool e))) (hy : e = true → PE j σ .fresh y3 (unitD (q, [92]))) (ok : Ok j) (F : Fm j.cx σ s) (hj : j.A = A.over c []) (hσ : ∀ x sv, σ.lookup x = some sv → ∃ d, sv = .dat d ∧ scal d = true) (hcl : j.env.cells = [])
    (hco : j.env.scope.isCoroutine = false) (C : Chg W s₀ s) (hsz : s₀.heap.objs.size ≤ s.heap.objs.size) (hW : ∀ b, avC j.cx σ b → W b ∨ s₀.heap.objs.size ≤ b) (hK : K .next = leafOf (.ok (.ret .none))) :
    Sg (model j.prog j.w) A (Post (model j.prog j.w) A j.base ((if e then [(q, [92])] else []).map unitD) W s₀) c ((execs [.If (.Name "escape" a1) [.Expr (.Yield (some y3) a2) a3] [] a4] j.env).wrap K H id lv) [] s := by
  refine sg_cons (sg_If ?_)
  rw [← hj]
  refine sized (pb_name he (by decide) (by decide) ok s F _ _ fun s₁ x₁ hs₁ => ?_)
  cases e with
  | true =>
    rw [if_pos rfl, if_pos rfl]
    refine sg_cons (g_yield rfl rfl (hy rfl) ok (F.ext x₁) hj hσ hcl hco (C.thenExt x₁) (Nat.le_trans hsz hs₁) hW fun s'' F'' _ => ?_)
    show Sg _ _ _ _ (K .next) [] s''
    rw [hK]
    exact sg_end _ ⟨rfl, Chg.refl _⟩
  | false =>
    rw [if_neg Bool.false_ne_true, if_neg Bool.false_ne_true]
    show Sg _ _ _ _ (K .next) [] s₁
    rw [hK]
    exact sg_end _ ⟨rfl, C.thenExt x₁⟩
end

section
variable {prog : Program} {w : World} {mg mb : Str → Option Value} {FS' : List DefRec} {cs : List (Str × PyData)} {env : Env} {base : Heap} {A : Around} {l : List Nat}

/-- the generator's loop -/
theorem g_loop (G : GEnv env) (gl : GL mg mb FS' cs base) {bd : List Stmt} {Ea Si : Addr} {P : Nat → Array Value → Prop} {St : Nat → Heap → Prop} {Mid : Nat → Addr → Heap → Prop} {y1 y2 t2 y3 : PySem.Expr} {a1 a2 a3 a4 a5 a6 a7 a8 a9 a10 a11 a12 a13 a14 a15 a16 a17 b1 b2 b3 : Pos} {k1 k2 k3 : Nat}
    (hy1 : ∀ Hl A' σ (p : Nat) c, σ.lookup ("pos" : Str) = some (.dat (.int p)) → σ.lookup ("ch" : Str) = some (.dat (.str (S [c]))) → PE (gj prog w mg mb FS' cs env base Hl A') σ .fresh y1 (unitD (p, [92, c])))
    (hy2 : ∀ Hl A' σ (p : Nat) c, σ.lookup ("pos" : Str) = some (.dat (.int p)) → σ.lookup ("ch" : Str) = some (.dat (.str (S [c]))) → PE (gj prog w mg mb FS' cs env base Hl A') σ .fresh y2 (unitD (p, [c])))
    (hy3 : ∀ Hl A' σ (p : Nat), σ.lookup ("pos" : Str) = some (.dat (.int p)) → PE (gj prog w mg mb FS' cs env base Hl A') σ .fresh y3 (unitD (p, [92])))
    (ht2 : ∀ Hl A' σ c, σ.lookup ("ch" : Str) = some (.dat (.str (S [c]))) → PB (gj prog w mg mb FS' cs env base Hl A') σ t2 (decide (c = 92)))
    (hWk : ∀ A', A'.handled = none → WalksT prog w A' Ea [Ea, Si] [Ea, Si] l.length P St Mid)
    (hP : ∀ (i : Nat) vals, P i vals → ∃ c t u, l[i]? = some c ∧ vals = #[.int (i : Int) t, .str ⟨#[c]⟩ u])
    (hStl : ∀ i h, St i h → Live h Ea ∧ Live h Si) (hEL : Ea ≠ env.locals) (hSL : Si ≠ env.locals)
    {k : Result → Sem Fin} {ls : List Value} {pp : Pos} {K : Flow → Sem Fin} {H : Value → Sem Fin} {lv : List Value → List Value}
    (hk : ∀ Φ' s₃, Sg (model prog w) A Φ' (.func bd env) ((execs [.If (.Name "escape" a14) [.Expr (.Yield (some y3) a15) a16] [] a17] env).wrap K H id lv) [] s₃ → Sg (model prog w) A Φ' (.func bd env) (k (.ok .next)) [] s₃)
    (hK : K .next = leafOf (.ok (.ret .none)))
    (R₁ : Rm 0 (A.over (.func bd env) []))
    (R₂ : Rm 0 (A.over (.forLoop (.Tuple [.Name "pos" b1, .Name "ch" b2] k3 b3) (.ref Ea) [.If (.Name "escape" a1) [.Expr (.Yield (some y1) a2) a3, .Assign [.Name "escape" a4] (.Constant (.bool false) k1 a5) a6] [.If t2 [.Assign [.Name "escape" a7] (.Constant (.bool true) k2 a8) a9] [.Expr (.Yield (some y2) a10) a11] a12] a13] [] env) [.ret k none false ls (.func bd env) pp []])) :
    ∀ (r : List Nat) (i : Nat) (e : Bool), l.drop i = r → i ≤ l.length → ∀ (s₀ : Shared) (W : Addr → Prop) (s : Shared), Fm ⟨env, base, fun b => b = Ea ∨ b = Si⟩ (gsto l e ((i - 1 : Nat) : Int)) s → St i s.heap → Chg W s₀ s → s₀.heap.objs.size ≤ s.heap.objs.size →
      (∀ b, avC ⟨env, base, fun b => b = Ea ∨ b = Si⟩ (gsto l e ((i - 1 : Nat) : Int)) b → W b ∨ s₀.heap.objs.size ≤ b) →
      Sg (model prog w) A (Post (model prog w) A base ((escs i e r).map unitD) W s₀)
        (.forLoop (.Tuple [.Name "pos" b1, .Name "ch" b2] k3 b3) (.ref Ea) [.If (.Name "escape" a1) [.Expr (.Yield (some y1) a2) a3, .Assign [.Name "escape" a4] (.Constant (.bool false) k1 a5) a6] [.If t2 [.Assign [.Name "escape" a7] (.Constant (.bool true) k2 a8) a9] [.Expr (.Yield (some y2) a10) a11] a12] a13] [] env)
        ((model prog w).den (.forLoop (.Tuple [.Name "pos" b1, .Name "ch" b2] k3 b3) (.ref Ea) [.If (.Name "escape" a1) [.Expr (.Yield (some y1) a2) a3, .Assign [.Name "escape" a4] (.Constant (.bool false) k1 a5) a6] [.If t2 [.Assign [.Name "escape" a7] (.Constant (.bool true) k2 a8) a9] [.Expr (.Yield (some y2) a10) a11] a12] a13] [] env))
        [.ret k none false ls (.func bd env) pp []] s := by
  generalize hbody : ([.If (.Name "escape" a1) [.Expr (.Yield (some y1) a2) a3, .Assign [.Name "escape" a4] (.Constant (.bool false) k1 a5) a6] [.If t2 [.Assign [.Name "escape" a7] (.Constant (.bool true) k2 a8) a9] [.Expr (.Yield (some y2) a10) a11] a12] a13] : List Stmt) = body at R₂ ⊢
  let cc : Cx := ⟨env, base, fun b => b = Ea ∨ b = Si⟩
  let j₁ : J := gj prog w mg mb FS' cs env base (fun b => b = Ea ∨ b = Si) (A.over (.func bd env) [])
  let j₂ : J := gj prog w mg mb FS' cs env base (fun b => b = Ea ∨ b = Si) (A.over (.forLoop (.Tuple [.Name "pos" b1, .Name "ch" b2] k3 b3) (.ref Ea) body [] env) [.ret k none false ls (.func bd env) pp []])
  have ok₁ : Ok j₁ := ⟨G.kind, G.glo, G.blt, gl, R₁⟩
  have ok₂ : Ok j₂ := ⟨G.kind, G.glo, G.blt, gl, R₂⟩
  have hav : ∀ {σ : Sto}, (∀ x sv, σ.lookup x = some sv → ∃ d, sv = .dat d ∧ scal d = true) → ∀ b, avC cc σ b ↔ b = env.locals ∨ b = Ea ∨ b = Si := fun hσ b => ⟨fun q => q.imp (g_mut G hσ b).mp id, fun q => q.imp (g_mut G hσ b).mpr id⟩
  have Wk := hWk _ R₂.handled
  have wr : ∀ b : Addr, b ∈ [Ea, Si] ↔ b = Ea ∨ b = Si := fun b => by simp
  have frm : ∀ {i : Nat} {h h' : Heap}, St i h → (∀ b o, (b = Ea ∨ b = Si) → h.get? b = some o → h'.get? b = some o) → St i h' := fun st hk => Wk.frame _ _ _ st fun b hb o e => hk b o ((wr b).mp hb) e
  intro r
  induction r with
  | nil =>
    intro i e hr hil s₀ W s F st C hsz hW
    have hWd : ∀ b, avC cc (gsto l e ((i - 1 : Nat) : Int)) b → W b ∨ ¬ Live s₀.heap b := fun b q => (hW b q).imp id dead_above
    have hi : i = l.length := Nat.le_antisymm hil (List.drop_eq_nil_iff.mp hr)
    refine sg_forLoop ?_
    refine sized (Wk.done s _ _ (hi ▸ st) fun h' tk hkp hs₁ => ?_)
    refine sg_leaf (.ok .next) (hk _ _ ?_)
    have C₁ : ChgG (fun b => b = Ea ∨ b = Si) (fun _ => False) s { s with heap := h', toks := tk } := ChgG.of_heap fun b o hb e => hkp b o (fun q => hb ((wr b).mp q)) e
    let j₀ : J := gj prog w mg mb FS' cs env base (fun _ => False) (A.over (.func bd env) [])
    have ok₀ : Ok j₀ := ⟨G.kind, G.glo, G.blt, gl, R₁⟩
    have F₀ : FmZ (avC cc (gsto l e ((i - 1 : Nat) : Int))) j₀.cx (gsto l e ((i - 1 : Nat) : Int)) s := FmZ.rehole (H := fun _ => False) F (fun _ q => q.elim) (fun _ q => q) fun b q => q.elim .inl fun q => q.elim
    have F₁ : Fm j₀.cx (gsto l e ((i - 1 : Nat) : Int)) { s with heap := h', toks := tk } := (FmZ.chg F₀ C₁ (fun b q => .inr q) (fun b q m => by
        have := (g_mut G gsto_scal b).mp m
        rcases q with q | q
        · exact hEL (q ▸ this)
        · exact hSL (q ▸ this)) (fun b q y e => by
          have e' : env.cells.lookup y = some b := e
          rw [G.cells] at e'; cases e') fun b q => q.elim).turn (fun b q => .inl (q.elim .inl fun q => q.elim)) fun _ q => q
    have C' : Chg W s₀ { s with heap := h', toks := tk } := ChgG.next C C₁ fun b q => hWd b (.inr q)
    exact g_tail (j := j₀) (σ := gsto l e ((i - 1 : Nat) : Int)) (by rfl) (fun _ => hy3 _ _ _ _ (by rfl)) ok₀ F₁ rfl gsto_scal G.cells G.co C' (Nat.le_trans hsz hs₁) (fun b q => hW b (q.elim .inl fun q => q.elim)) hK
  | cons ch r ih =>
    intro i e hr hil s₀ W s F st C hsz hW
    have hWd : ∀ b, avC cc (gsto l e ((i - 1 : Nat) : Int)) b → W b ∨ ¬ Live s₀.heap b := fun b q => (hW b q).imp id dead_above
    have hch : l[i]? = some ch := by
      have h1 : (l.drop i)[0]? = some ch := by rw [hr]; rfl
      simpa using h1
    have hlt : i < l.length := (List.getElem?_eq_some_iff.mp hch).1
    have hr' : l.drop (i + 1) = r := by rw [← List.tail_drop, hr]; rfl
    have again : ∀ (e' : Bool) (σ' : Sto) (s₀' : Shared) (W' : Addr → Prop) (s₅ : Shared), Fm cc σ' s₅ → (∀ y sv, (gsto l e' (i : Int)).lookup y = some sv → σ'.lookup y = some sv) → St (i + 1) s₅.heap → Chg W' s₀' s₅ → s₀'.heap.objs.size ≤ s₅.heap.objs.size →
        (∀ b, (b = env.locals ∨ b = Ea ∨ b = Si) → W' b ∨ s₀'.heap.objs.size ≤ b) →
        Sg (model prog w) A (Post (model prog w) A base ((escs (i + 1) e' r).map unitD) W' s₀') (.forLoop (.Tuple [.Name "pos" b1, .Name "ch" b2] k3 b3) (.ref Ea) body [] env)
          ((model prog w).den (.forLoop (.Tuple [.Name "pos" b1, .Name "ch" b2] k3 b3) (.ref Ea) body [] env)) [.ret k none false ls (.func bd env) pp []] s₅ :=
      fun e' σ' s₀' W' s₅ F' hσ' st' C' hz' h1 => ih (i + 1) e' hr' hlt s₀' W' s₅ (Fm.weak F' hσ') st' C' hz' fun b q => h1 b ((hav gsto_scal b).mp q)
    refine sg_forLoop ?_
    refine sized (Wk.item i s _ _ hlt st fun T vals h₁ tk hPv hTs hT hM hk₁ hs₁ => ?_)
    dsimp only
    refine sized (Wk.go [.Name "pos" b1, .Name "ch" b2] k3 b3 i T { s with heap := h₁, toks := tk } _ _ hM fun h₂ st₂ hk₂ hs₂ => ?_)
    have keep₂ : ∀ b o, ¬ (b = Ea ∨ b = Si) → s.heap.get? b = some o → h₂.get? b = some o := fun b o hb e => hk₂ b o (fun q => hb ((wr b).mp q)) (hk₁ b o (fun q => hb ((wr b).mp q)) e)
    obtain ⟨c, t, u, hc, rfl⟩ := hP i vals hPv
    have : c = ch := by rw [hch] at hc; exact (Option.some.inj hc).symm
    subst this
    have C₂ : ChgG (fun b => b = Ea ∨ b = Si) (fun _ => False) s { s with heap := h₂, toks := tk } := ChgG.of_heap keep₂
    have F₂ : Fm cc (gsto l e ((i - 1 : Nat) : Int)) { s with heap := h₂, toks := tk } := FmZ.chg F C₂ (fun b q => .inr q) (fun b q m => by
        have := (g_mut G gsto_scal b).mp m
        rcases q with q | q
        · exact hEL (q ▸ this)
        · exact hSL (q ▸ this)) (fun b q y e => by
          have e' : env.cells.lookup y = some b := e
          rw [G.cells] at e'; cases e') fun b _ q => by
        rcases q with q | q
        · exact q ▸ (hStl _ _ st₂).1
        · exact q ▸ (hStl _ _ st₂).2
    have hTw : T ∉ [Ea, Si] := Wk.apart _ _ _ hM
    have hTn : ¬ avC cc (gsto l e ((i - 1 : Nat) : Int)) T := fun q => by
      obtain ⟨o, e'⟩ := F.avLive q
      exact absurd (Heap.lt_size e') (Nat.not_lt.mpr hTs)
    have hv : RV (avC cc (gsto l e ((i - 1 : Nat) : Int))) h₂ (.tuple [.int (i : Int), .str (S [c])]) (.ref T) :=
      RV.tuple_iff.mpr ⟨T, _, rfl, hTn, (let ⟨o, e', hc', hd'⟩ := hT; ⟨o, hk₂ T o hTw e', hc', hd'⟩), .cons (RV.int_iff.mpr ⟨t, rfl⟩) (.cons (RV.str_iff.mpr ⟨u, rfl⟩) .nil)⟩
    refine sized (assignT (j := j₂) (tgt := .Tuple [.Name "pos" b1, .Name "ch" b2] k3 b3) (d := .tuple [.int (i : Int), .str (S [c])]) ok₂ (.two (show Storable env _ ∧ Storable env _ from ⟨.inl G.kpos, .inl G.kch⟩)) F₂ hv fun s₃ S₃ _ hs₃ => ?_)
    have hz₃ : s₀.heap.objs.size ≤ s₃.heap.objs.size := Nat.le_trans hsz (Nat.le_trans hs₁ (Nat.le_trans hs₂ hs₃))
    intro K' H' hK'
    generalize hσ₃ : bindT (.Tuple [.Name "pos" b1, .Name "ch" b2] k3 b3) (.tuple [.int (i : Int), .str (S [c])]) (gsto l e ((i - 1 : Nat) : Int)) = σ₃ at S₃
    have hσe : σ₃ = (("ch" : Str), SV.dat (.str (S [c]))) :: (("pos" : Str), SV.dat (.int (i : Int))) :: gsto l e ((i - 1 : Nat) : Int) := hσ₃.symm
    have lesc : σ₃.lookup ("escape" : Str) = some (.dat (.bool e)) := by rw [hσe]; rfl
    have lpos : σ₃.lookup ("pos" : Str) = some (.dat (.int (i : Int))) := by rw [hσe]; rfl
    have lch : σ₃.lookup ("ch" : Str) = some (.dat (.str (S [c]))) := by rw [hσe]; rfl
    have laddr : σ₃.lookup ("addr" : Str) = some (.dat (.str (S l))) := by rw [hσe]; rfl
    have scal₃ : ∀ x sv, σ₃.lookup x = some sv → ∃ d, sv = .dat d ∧ scal d = true := fun x sv h => by
      rw [hσe] at h
      rcases lookup_put h with ⟨_, rfl⟩ | ⟨_, h⟩
      · exact ⟨_, rfl, rfl⟩
      · rcases lookup_put h with ⟨_, rfl⟩ | ⟨_, h⟩
        · exact ⟨_, rfl, rfl⟩
        · exact gsto_scal x sv h
    have st₃ : St (i + 1) s₃.heap := frm st₂ fun b o q e' => S₃.chg.keep b o (fun m => by
        have := (g_mut G gsto_scal b).mp m
        rcases q with q | q
        · exact hEL (q ▸ this)
        · exact hSL (q ▸ this)) e'
    have C₃ : Chg W s₀ s₃ := ChgG.next (ChgG.next C C₂ fun b q => hWd b (.inr q)) S₃.chg fun b q => hWd b (.inl q)
    have hW₃ : ∀ b, avC cc σ₃ b → W b ∨ s₀.heap.objs.size ≤ b := fun b q => hW b ((hav gsto_scal b).mpr ((hav scal₃ b).mp q))
    -- the turn's end, from a store with another escape
    have fin : ∀ (e' : Bool) (s₀' : Shared) (W' : Addr → Prop) (s₄ : Shared) (ap bp cp : Pos) (kk : Nat) (K₂ : Flow → Sem Fin), Fm cc σ₃ s₄ → St (i + 1) s₄.heap → Chg W' s₀' s₄ → s₀'.heap.objs.size ≤ s₄.heap.objs.size → (∀ b, avC cc σ₃ b → W' b ∨ s₀'.heap.objs.size ≤ b) → (∀ Φ' s₅, Sg (model prog w) A Φ' (.forLoop (.Tuple [.Name "pos" b1, .Name "ch" b2] k3 b3) (.ref Ea) body [] env) (K' .next) [.ret k none false ls (.func bd env) pp []] s₅ →
          Sg (model prog w) A Φ' (.forLoop (.Tuple [.Name "pos" b1, .Name "ch" b2] k3 b3) (.ref Ea) body [] env) (K₂ .next) [.ret k none false ls (.func bd env) pp []] s₅) →
        Sg (model prog w) A (Post (model prog w) A base ((escs (i + 1) e' r).map unitD) W' s₀') (.forLoop (.Tuple [.Name "pos" b1, .Name "ch" b2] k3 b3) (.ref Ea) body [] env)
          ((execs [.Assign [.Name "escape" ap] (.Constant (.bool e') kk bp) cp] env).wrap K₂ H' id id) [.ret k none false ls (.func bd env) pp []] s₄ := by
      intro e' s₀' W' s₄ ap bp cp kk K₂ F₄ st₄ C₄ hz₄ hW₄ hK₂
      refine sg_stmt (j := j₂) rfl ok₂ F₄ (s1_assign pe_bool (.inl (by intro h; cases h)) (.inl G.kesc)) fun s₅ S₅ hs₅ => ?_
      refine sg_nil (hK₂ _ _ (hK' _ _ ?_))
      refine again e' _ s₀' W' s₅ S₅.fm (fun y sv h => ?_) (frm st₄ fun b o q e'' => S₅.chg.keep b o (fun m => by
        have := (g_mut G scal₃ b).mp m
        rcases q with q | q
        · exact hEL (q ▸ this)
        · exact hSL (q ▸ this)) e'') (ChgG.next C₄ S₅.chg fun b q => (hW₄ b (.inl q)).imp id dead_above) (Nat.le_trans hz₄ hs₅) fun b q => hW₄ b ((hav scal₃ b).mpr q)
      unfold gsto at h
      rcases lookup_put h with ⟨rfl, rfl⟩ | ⟨hne, h⟩
      · exact lookup_cons_self
      · rw [lookup_cons_ne hne]
        rcases lookup_put h with ⟨rfl, rfl⟩ | ⟨_, h⟩
        · exact lpos
        · rcases lookup_put h with ⟨rfl, rfl⟩ | ⟨_, h⟩
          · exact laddr
          · cases h
    -- the turn's end, with nothing stored
    have fin0 : ∀ (s₀' : Shared) (W' : Addr → Prop) (s₄ : Shared), e = false → Fm cc σ₃ s₄ → St (i + 1) s₄.heap → Chg W' s₀' s₄ → s₀'.heap.objs.size ≤ s₄.heap.objs.size → (∀ b, avC cc σ₃ b → W' b ∨ s₀'.heap.objs.size ≤ b) →
        Sg (model prog w) A (Post (model prog w) A base ((escs (i + 1) false r).map unitD) W' s₀') (.forLoop (.Tuple [.Name "pos" b1, .Name "ch" b2] k3 b3) (.ref Ea) body [] env) (K' .next) [.ret k none false ls (.func bd env) pp []] s₄ := by
      intro s₀' W' s₄ he F₄ st₄ C₄ hz₄ hW₄
      refine hK' _ _ (again false _ s₀' W' s₄ F₄ (fun y sv h => ?_) st₄ C₄ hz₄ fun b q => hW₄ b ((hav scal₃ b).mpr q))
      unfold gsto at h
      rcases lookup_put h with ⟨rfl, rfl⟩ | ⟨hne, h⟩
      · rw [lesc, he]
      · rcases lookup_put h with ⟨rfl, rfl⟩ | ⟨_, h⟩
        · exact lpos
        · rcases lookup_put h with ⟨rfl, rfl⟩ | ⟨_, h⟩
          · exact laddr
          · cases h
    rw [← hbody]
    refine sg_cons (sg_If ?_)
    refine sized (pb_name (j := j₂) lesc (by decide) (by decide) ok₂ s₃ S₃.fm _ _ fun s₄ x₄ hs₄ => ?_)
    have hz₄ := Nat.le_trans hz₃ hs₄
    have st₄ : St (i + 1) s₄.heap := frm st₃ fun b o _ e' => x₄.get e'
    cases e with
    | true =>
      rw [if_pos rfl]
      show Sg _ _ (Post _ _ _ (unitD (i, [92, c]) :: (escs (i + 1) false r).map unitD) _ _) _ _ _ _
      rw [hbody]
      refine sg_cons (g_yield (j := j₂) rfl rfl (hy1 _ _ _ _ _ lpos lch) ok₂ (S₃.fm.ext x₄) rfl scal₃ G.cells G.co (C₃.thenExt x₄) hz₄ hW₃ fun s'' F'' hk'' => ?_)
      exact fin false s'' (avC j₂.cx σ₃) s'' _ _ _ _ _ F'' (frm st₄ fun b o q e' => hk'' b o (.inr q) e') (Chg.refl _) (Nat.le_refl _) (fun b q => .inl q) fun Φ' s₅ h => h
    | false =>
      rw [if_neg Bool.false_ne_true]
      refine sg_cons (sg_If ?_)
      refine sized (ht2 _ _ _ _ lch ok₂ s₄ (S₃.fm.ext x₄) _ _ fun s₅ x₅ hs₅ => ?_)
      have hz₅ := Nat.le_trans hz₄ hs₅
      have st₅ : St (i + 1) s₅.heap := frm st₄ fun b o _ e' => x₅.get e'
      by_cases h92 : c = 92
      · subst h92
        rw [if_pos (by decide)]
        rw [hbody]
        exact fin true s₀ W s₅ _ _ _ _ _ ((S₃.fm.ext x₄).ext x₅) st₅ ((C₃.thenExt x₄).thenExt x₅) hz₅ hW₃ fun Φ' s₅ h => h
      · rw [if_neg (by simpa using h92)]
        have hesc : escs i false (c :: r) = (i, [c]) :: escs (i + 1) false r := by simp [escs, h92]
        rw [hesc]
        show Sg _ _ (Post _ _ _ (unitD (i, [c]) :: (escs (i + 1) false r).map unitD) _ _) _ _ _ _
        rw [hbody]
        refine sg_cons (g_yield (j := j₂) rfl rfl (hy2 _ _ _ _ _ lpos lch) ok₂ ((S₃.fm.ext x₄).ext x₅) rfl scal₃ G.cells G.co ((C₃.thenExt x₄).thenExt x₅) hz₅ hW₃ fun s'' F'' hk'' => ?_)
        exact fin0 s'' (avC j₂.cx σ₃) s'' rfl F'' (frm st₅ fun b o q e' => hk'' b o (.inr q) e') (Chg.refl _) (Nat.le_refl _) fun b q => .inl q
end
end Pm

end
section
open PySem PySem.Calls PyProof.Rows
set_option Elab.async false
set_option linter.unusedVariables false
namespace Pm

theorem Rm.gen1 {A : Around} {n : Nat} (h : Rm (n + 1) A) {bd : List Stmt} {env : Env} : Rm n (A.in1.over (.func bd env) []) := by
  refine ⟨h.handled, ?_, ?_⟩
  · have := h.depth
    show A.depth + 0 + 1 + n + 2 < _; omega
  · have := h.units
    show A.units + 1 + 0 + 3 + 8 * n + 70 < _; omega
theorem Rm.gen2 {A : Around} {n : Nat} (h : Rm (n + 1) A) {bd body : List Stmt} {env : Env} {tgt : PySem.Expr} {it : Value} {k : Result → Sem Fin} {l : List Value} {p : Pos} : Rm n (A.in1.over (.forLoop tgt it body [] env) [.ret k none false l (.func bd env) p []]) := by
  refine ⟨h.handled, ?_, ?_⟩
  · have := h.depth
    show A.depth + 1 + 0 + n + 2 < _; omega
  · have := h.units
    show A.units + 1 + 3 + 0 + 8 * n + 70 < _; omega

/-- the generator's run from its start -/
def GS (fs : List DefRec) (cs : List (Str × PyData)) (dr : DefRec) : Prop :=
  ∀ (prog : Program) (w : World) (mg mb : Str → Option Value) (A : Around), Rm 1 A → ∀ (L a : Addr) (cd : Value) (base : Heap), GL mg mb fs cs base → ∀ (l : List Nat) (s : Shared), Fm ⟨envOfC dr.name dr.scope L a cd, base, fun _ => False⟩ [("addr", .dat (.str (S l)))] s →
    Sg (model prog w) A.in1 (Post (model prog w) A.in1 base ((units l).map unitD) (· = L) s) (.func dr.body (envOfC dr.name dr.scope L a cd)) ((model prog w).den (.func dr.body (envOfC dr.name dr.scope L a cd))) [] s

theorem g_start {fs : List DefRec} {cs : List (Str × PyData)} {dr : DefRec} {y1 y2 t2 y3 : PySem.Expr} {a1 a2 a3 a4 a5 a6 a7 a8 a9 a10 a11 a12 a13 a14 a15 a16 a17 b1 b2 b3 e1 e2 e3 e4 e5 e6 f1 f2 f3 f4 : Pos} {k1 k2 k3 k4 k5 : Nat}
    (hbody : dr.body = [.Assign [.Name "pos" e1] (.Constant (.int 0) k4 e2) e3, .Assign [.Name "escape" e4] (.Constant (.bool false) k5 e5) e6,
      .For (.Tuple [.Name "pos" b1, .Name "ch" b2] k3 b3) (.Call (.Name "enumerate" f1) [.Name "addr" f2] [] f3)
        [.If (.Name "escape" a1) [.Expr (.Yield (some y1) a2) a3, .Assign [.Name "escape" a4] (.Constant (.bool false) k1 a5) a6] [.If t2 [.Assign [.Name "escape" a7] (.Constant (.bool true) k2 a8) a9] [.Expr (.Yield (some y2) a10) a11] a12] a13] [] f4,
      .If (.Name "escape" a14) [.Expr (.Yield (some y3) a15) a16] [] a17])
    (G : ∀ L a cd, GEnv (envOfC dr.name dr.scope L a cd))
    (hy1 : ∀ prog w mg mb L a cd base Hl A' σ (p : Nat) c, σ.lookup ("pos" : Str) = some (.dat (.int p)) → σ.lookup ("ch" : Str) = some (.dat (.str (S [c]))) → PE (gj prog w mg mb fs cs (envOfC dr.name dr.scope L a cd) base Hl A') σ .fresh y1 (unitD (p, [92, c])))
    (hy2 : ∀ prog w mg mb L a cd base Hl A' σ (p : Nat) c, σ.lookup ("pos" : Str) = some (.dat (.int p)) → σ.lookup ("ch" : Str) = some (.dat (.str (S [c]))) → PE (gj prog w mg mb fs cs (envOfC dr.name dr.scope L a cd) base Hl A') σ .fresh y2 (unitD (p, [c])))
    (hy3 : ∀ prog w mg mb L a cd base Hl A' σ (p : Nat), σ.lookup ("pos" : Str) = some (.dat (.int p)) → PE (gj prog w mg mb fs cs (envOfC dr.name dr.scope L a cd) base Hl A') σ .fresh y3 (unitD (p, [92])))
    (ht2 : ∀ prog w mg mb L a cd base Hl A' σ c, σ.lookup ("ch" : Str) = some (.dat (.str (S [c]))) → PB (gj prog w mg mb fs cs (envOfC dr.name dr.scope L a cd) base Hl A') σ t2 (decide (c = 92))) : GS fs cs dr := by
  intro prog w mg mb A R L a cd base gl l s F
  have G := G L a cd
  generalize henv : envOfC dr.name dr.scope L a cd = env at *
  have hL : env.locals = L := by rw [← henv]; rfl
  let j₀ : J := gj prog w mg mb fs cs env base (fun _ => False) (A.in1.over (.func dr.body env) [])
  have ok₀ : Ok j₀ := ⟨G.kind, G.glo, G.blt, gl, R.gen1⟩
  refine sg_func ?_
  generalize hbd : dr.body = bd at *
  rw [hbody]
  rw [← hbody]
  have go : ∀ (K : Flow → Sem Fin) (H : Value → Sem Fin), K .next = leafOf (.ok (.ret .none)) → Sg (model prog w) A.in1 (Post (model prog w) A.in1 base ((units l).map unitD) (· = L) s) (.func bd env) ((execs bd env).wrap K H id id) [] s := by
    intro K H hK
    rw [show (execs bd env).wrap K H id id = (execs _ env).wrap K H id id from congrArg (fun b => (execs b env).wrap K H id id) hbody]
    refine sg_stmt (j := j₀) rfl ok₀ F (s1_assign pe_int (.inl (by intro h; cases h)) (.inl G.kpos)) fun s₁ S₁ hs₁ => ?_
    refine sg_stmt (j := j₀) rfl ok₀ S₁.fm (s1_assign pe_bool (.inl (by intro h; cases h)) (.inl G.kesc)) fun s₂ S₂ hs₂ => ?_
    have F₂ : Fm j₀.cx (gsto l false 0) s₂ := S₂.fm
    have hm : ∀ {σ : Sto}, (∀ x sv, σ.lookup x = some sv → ∃ d, sv = .dat d ∧ scal d = true) → ∀ b, mutC j₀.cx σ b ↔ b = L := fun hσ b => hL ▸ g_mut G hσ b
    have sc1 : ∀ x sv, List.lookup x ([(("addr" : Str), SV.dat (.str (S l)))] : Sto) = some sv → ∃ d, sv = .dat d ∧ scal d = true := fun x sv h => by
      rcases lookup_put h with ⟨_, rfl⟩ | ⟨_, h⟩
      · exact ⟨_, rfl, rfl⟩
      · cases h
    have sc2 : ∀ x sv, List.lookup x ([(("pos" : Str), SV.dat (.int 0)), (("addr" : Str), SV.dat (.str (S l)))] : Sto) = some sv → ∃ d, sv = .dat d ∧ scal d = true := fun x sv h => by
      rcases lookup_put h with ⟨_, rfl⟩ | ⟨_, h⟩
      · exact ⟨_, rfl, rfl⟩
      · exact sc1 x sv h
    have C₂ : Chg (· = L) s s₂ := ChgG.next (S₁.chg.widen fun b q _ => (hm sc1 b).mp q) S₂.chg fun b q => .inl ((hm sc2 b).mp q)
    have hLl : Live s.heap L := by rw [← hL]; exact F.mutLive (.inl rfl)
    refine sg_cons (sg_For ?_ (fun _ => rfl))
    refine ev_enumStr (j := j₀) ok₀ F₂ (pe_name (by rfl)) G.kenum rfl rfl ?_
    intro s₃ Ea Si s₄ P St Mid x₃ x₄ hs₃ hs₄ hE₀ hS₀ hWk hP hStl st₀
    have hz₃ : s.heap.objs.size ≤ s₃.heap.objs.size := Nat.le_trans hs₁ (Nat.le_trans hs₂ hs₃)
    have hE := dead_above hE₀
    have hS := dead_above hS₀
    intro k ls pp hk
    have hEn : ∀ b, ¬ Live s₃.heap b → ¬ Live base b := fun b h ⟨o, e⟩ => h ⟨o, x₃.get (F₂.keep b o e)⟩
    have hlive := hStl _ _ st₀
    have F₃ : FmZ (fun b => avC j₀.cx (gsto l false 0) b ∨ (b = Ea ∨ b = Si)) j₀.cx (gsto l false 0) s₃ := (F₂.ext x₃).turn (fun b q => q.imp id fun q => by
      rcases q with rfl | rfl
      · exact ⟨hE, hEn _ hE⟩
      · exact ⟨hS, hEn _ hS⟩) fun b q => .inl q
    have F₄ : Fm ⟨env, base, fun b => b = Ea ∨ b = Si⟩ (gsto l false (((0 : Nat) - 1 : Nat) : Int)) s₄ := FmZ.rehole (H := fun b => b = Ea ∨ b = Si) (F₃.ext x₄) (fun b q => by
      rcases q with rfl | rfl
      · exact hlive.1
      · exact hlive.2) (fun b q => q.elim (fun q => .inl (.inl q)) .inr) fun b q => q
    have hne : ∀ b, ¬ Live s₃.heap b → b ≠ L := fun b h q => h (q ▸ (F₂.ext x₃).mutLive (.inl hL.symm))
    have C₄ : Chg (· = L) s s₄ := C₂.thenExt (x₃.thenExt x₄)
    refine g_loop G gl (hy1 prog w mg mb L a cd base |> fun h => by rw [henv] at h; exact h) (hy2 prog w mg mb L a cd base |> fun h => by rw [henv] at h; exact h) (hy3 prog w mg mb L a cd base |> fun h => by rw [henv] at h; exact h) (ht2 prog w mg mb L a cd base |> fun h => by rw [henv] at h; exact h)
      (l := l) (by simpa using hWk) (fun i vals h => by simpa [S] using hP i vals h) hStl (hL ▸ hne _ hE) (hL ▸ hne _ hS) (K := K) (H := H) (lv := id) hk hK R.gen1 R.gen2 l 0 false rfl (Nat.zero_le _) s _ s₄ F₄ st₀ C₄ (Nat.le_trans hz₃ hs₄) fun b q => ?_
    rcases q with q | rfl | rfl
    · exact .inl (hL ▸ (g_mut G gsto_scal b).mp q)
    · exact .inr (Nat.le_trans hz₃ hE₀)
    · exact .inr (Nat.le_trans hz₃ hS₀)
  exact go _ _ rfl
end Pm

end
section
open PySem PySem.Calls PyProof.Rows
set_option Elab.async false
set_option linter.unusedVariables false
namespace Pm

theorem setGen_heap (s : Shared) (g : Nat) (x : GenState) : (s.setGen g x).heap = s.heap := rfl
theorem setGen_other {s : Shared} {g i : Nat} {x : GenState} (h : i ≠ g) : (s.setGen g x).gens[i]? = s.gens[i]? := by
  show (s.gens.setIfInBounds g x)[i]? = _
  rw [Array.getElem?_setIfInBounds_ne (Ne.symm h)]
theorem setGen_bare {s : Shared} {g : Nat} {x : GenState} (h : AllBare s.gens) (hx : x.bare = true) : AllBare (s.setGen g x).gens := by
  intro y hy
  have hy' : y ∈ s.gens.setIfInBounds g x := hy
  rcases Array.mem_or_eq_of_mem_setIfInBounds hy' with q | q
  · exact h y q
  · exact q ▸ hx
theorem setGen_size {s : Shared} {g : Nat} {x : GenState} : (s.setGen g x).gens.size = s.gens.size := by
  show (s.gens.setIfInBounds g x).size = _
  simp

/-- one stretch of a generator's run, told as a change of the state -/
theorem chg_gen {W Wg : Addr → Prop} {g : Nat} {s s₁ : Shared} {x : GenState} (hW : ∀ b, Wg b → W b) (C : Chg Wg (s.setGen g .running) s₁) (hx : x.bare = true) : ChgG W (· = g) s (s₁.setGen g x) where
  keep := fun b o hb e => C.keep b o (fun q => hb (hW b q)) e
  gsize := by rw [setGen_size]; have := C.gsize; rw [setGen_size] at this; exact this
  gens := fun i hi hn => by
    rw [setGen_other hn, C.gens i (by rw [setGen_size]; exact hi) id, setGen_other hn]
  bare := fun h => setGen_bare (C.bare (setGen_bare h rfl)) hx
  os := C.os

section
variable {prog : Program} {w : World} {mg mb : Str → Option Value} {fs : List DefRec} {cs : List (Str × PyData)} {A : Around} {c : Cx} {σ : Sto} {s₁ : Shared} {ga : Addr} {g : Nat} {ds : List PyData} {tgt : PySem.Expr}

def GSt (prog : Program) (w : World) (A : Around) (base : Heap) (s₁ : Shared) (ga : Addr) (g : Nat) (ds : List PyData) (i : Nat) (W : Addr → Prop) (s : Shared) : Prop :=
  ∃ (Wg : Addr → Prop) (gs : GenState), (∀ b, W b ↔ (Wg b ∨ b = ga)) ∧ ¬ Wg ga ∧ s.gens[g]? = some gs ∧ s.heap.IsGen ga g ∧ (∀ b, W b → s₁.heap.objs.size ≤ b) ∧ (∀ b, Wg b → Live s.heap b) ∧
    ∀ s'' : Shared, (∀ b o, Wg b → s.heap.get? b = some o → s''.heap.get? b = some o) → (∀ b o, base.get? b = some o → s''.heap.get? b = some o) → GoesS (model prog w) A.in1 (Post (model prog w) A.in1 base (ds.drop i) Wg s'') gs s''

theorem gen_itr (gl : GL mg mb fs cs c.base) (hh : A.handled = none) (hroom : A.depth < recursionLimit) (hkeep : ∀ b o, c.base.get? b = some o → s₁.heap.get? b = some o) (hdead : ∀ b, avC c σ b → ¬ Live c.base b) :
    Itr prog w A c σ s₁ ga tgt ds (· = g) (GSt prog w A c.base s₁ ga g ds) where
  step := fun i W d s hd hst hf Z hz hz' hzw hsz Q N E hQ => by
    obtain ⟨Wg, gs, hW, hga, hgs, hig, hWd, hWl, hgo⟩ := hst
    have hb : ∀ b o, c.base.get? b = some o → s.heap.get? b = some o := fun b o e => hf b o (fun q => hdead b q ⟨o, e⟩) (hkeep b o e)
    have hds : ds.drop i = d :: ds.drop (i + 1) := by
      obtain ⟨hlt, e⟩ := List.getElem?_eq_some_iff.mp hd
      rw [List.drop_eq_getElem_cons hlt, e]
    refine next_sg hh (gl.keeps hb).nolimit hroom hig hgs (hgo (s.setGen g .running) (fun b o _ e => e) hb) fun e s₂ hp => ?_
    rw [hds] at hp
    obtain ⟨v, g₀, l, k, c₀, p, fs₀, W', rfl, hq, C, hnew, hs₂, hWl', hv, hnext⟩ := hp
    refine .inr ⟨v, g₀, l, k, c₀, p, fs₀, rfl, hq, ?_⟩
    have hga' : Live s.heap ga := let ⟨o, _, _, ho, _⟩ := hig; ⟨o, ho⟩
    have hbare : (End.susp v g₀ l k c₀ p fs₀).genState.bare = true := End.bare_of_quiet hq
    have hig₂ : s₂.heap.IsGen ga g := let ⟨o, nm, qn, ho, r⟩ := hig; ⟨o, nm, qn, C.keep ga o hga ho, r⟩
    have hgs₂ : (s₂.setGen g (End.susp v g₀ l k c₀ p fs₀).genState).gens[g]? = some (End.susp v g₀ l k c₀ p fs₀).genState := by
      have hlt : g < s.gens.size := by
        obtain ⟨h, _⟩ := Array.getElem?_eq_some_iff.mp hgs; exact h
      have h2 : g < s₂.gens.size := by have := C.gsize; rw [setGen_size] at this; exact Nat.lt_of_lt_of_le hlt this
      show (s₂.gens.setIfInBounds g _)[g]? = _
      simp [h2]
    obtain ⟨o, nm, qn, ho, hoc, hr⟩ := hig₂
    refine letGo_plain (s := s₂.setGen g (End.susp v g₀ l k c₀ p fs₀).genState) ho hoc (by decide +kernel) (hQ v _ (fun b => W' b ∨ b = ga) (chg_gen (fun b q => (hW b).mpr (.inl q)) C hbare) hs₂ ⟨W', _, fun b => Iff.rfl, ?_, hgs₂, ⟨o, nm, qn, ho, hoc, hr⟩, ?_, hWl', fun s'' hw hb'' => ?_⟩ ?_ ?_)
    · exact fun q => (hnew ga q).elim hga fun l => dead_above l hga'
    · intro b q
      rcases q with q | q
      · rcases hnew b q with q | q
        · exact hWd b ((hW b).mpr (.inl q))
        · exact Nat.le_trans hsz q
      · exact q ▸ hWd ga ((hW ga).mpr (.inr rfl))
    · exact hnext s'' hw hb''
    · intro b q
      rcases q with q | q
      · exact (hnew b q).imp (fun q => (hW b).mpr (.inl q)) id
      · exact .inl ((hW b).mpr (.inr q))
    · refine hv.thin fun b q => ?_
      rcases q with q | q | rfl
      · exact .inl ⟨hz b q, fun w => hzw b q ((hW b).mpr (.inl w))⟩
      · exact .inr q
      · exact .inl ⟨hga', hga⟩
  stop := fun W s hst hf Q E hQ => by
    obtain ⟨Wg, gs, hW, hga, hgs, hig, hWd, hWl, hgo⟩ := hst
    have hb : ∀ b o, c.base.get? b = some o → s.heap.get? b = some o := fun b o e => hf b o (fun q => hdead b q ⟨o, e⟩) (hkeep b o e)
    refine next_sg hh (gl.keeps hb).nolimit hroom hig hgs (hgo (s.setGen g .running) (fun b o _ e => e) hb) fun e s₂ hp => ?_
    rw [List.drop_length] at hp
    obtain ⟨rfl, C⟩ := hp
    refine .inl ⟨rfl, fun h' hk => hQ _ ?_⟩
    have c := chg_gen (W := W) (x := .finished) (fun b q => (hW b).mpr (.inl q)) C rfl
    exact ⟨fun b o hb' e => hk b o (c.keep b o hb' e), c.gsize, c.gens, c.bare, c.os⟩
  frame := fun i W s s' hst hw hg => by
    obtain ⟨Wg, gs, hW, hga, hgs, hig, hWd, hWl, hgo⟩ := hst
    refine ⟨Wg, gs, hW, hga, (hg g rfl).trans hgs, ?_, hWd, fun b q => let ⟨o, e⟩ := hWl b q; ⟨o, hw b o ((hW b).mpr (.inl q)) e⟩, fun s'' hw' hb => hgo s'' (fun b o q e => hw' b o q (hw b o ((hW b).mpr (.inl q)) e)) hb⟩
    obtain ⟨o, nm, qn, ho, r⟩ := hig
    exact ⟨o, nm, qn, hw ga o ((hW ga).mpr (.inr rfl)) ho, r⟩
  live := fun i W s hst hf => by
    obtain ⟨Wg, gs, hW, hga, hgs, hig, hWd, hWl, hgo⟩ := hst
    refine ⟨fun b q => ?_, fun g' q => ?_⟩
    · rcases (hW b).mp q with q | rfl
      · exact hWl b q
      · obtain ⟨o, _, _, ho, _⟩ := hig; exact ⟨o, ho⟩
    · subst q; obtain ⟨h, _⟩ := Array.getElem?_eq_some_iff.mp hgs; exact h
  dead := fun i W s hst b q => by
    obtain ⟨Wg, gs, hW, hga, hgs, hig, hWd, hWl, hgo⟩ := hst
    exact dead_above (hWd b q)
  self := fun i W s hst hf Q E hQ => by
    obtain ⟨Wg, gs, hW, hga, hgs, hig, hWd, hWl, hgo⟩ := hst
    exact wpAny_pyIter_gen hig hQ
end

section
variable {j : J} {σ : Sto} {md : Md} {e tgt : PySem.Expr} {l : List Nat} {pos np : Pos}

/-- a call of the generator -/
theorem ev_gen {dr : DefRec} (hgs : GS j.fs j.cs dr) (hdr : dr ∈ j.fs) (h : PE j σ md e (.str (S l))) {x : Str} (hx : x = dr.name) (hk : j.env.kindOf x = some .globalImplicit)
    (hbind : ∀ v pm cd doc, bindArgs (docDef dr.name dr.params dr.body dr.scope pm cd doc) ⟨[v], []⟩ = pure [(("addr" : Str), v)])
    (hco : dr.scope.isCoroutine = false) (hgen : dr.scope.isGenerator = true) (hkind : dr.scope.kind = .function) (hloc : dr.scope.names.lookup ("addr" : Str) = some .local) (hcells : ∀ L a cd, (envOfC dr.name dr.scope L a cd).cells = [])
    (hs : starEach [e] j.env = (false, eval e j.env) :: starEach [] j.env)
    (he : eval (.Call (.Name x np) [e] [] pos) j.env = (do callWith pos (← eval (.Name x np) j.env) [] (backTo pos (starEach [e] j.env)) (backToKw pos (keywordEach [] j.env))))
    (hd : (x == ("__debug__" : Str)) = false) (ok : Ok j) {s : Shared} (F : Fm j.cx σ s) {Q : Value → Shared → Prop} {E : Value → Shared → Prop}
    (hQ : ∀ s₁ s₂ ga g W, Ext s s₁ → Ext s₁ s₂ → g = s₁.gens.size → s₁.heap.objs.size ≤ s₂.heap.objs.size → s₂.heap.IsGen ga g → (∀ A', Rm 1 A' → GSt j.prog j.w A' j.base s₁ ga g ((units l).map unitD) 0 W s₂) → Q (.ref ga) s₂) :
    wpAny (model j.prog j.w) j.A (eval (.Call (.Name x np) [e] [] pos) j.env) Q E s := by
  subst hx
  obtain ⟨a, o, pm, cd, doc, hm', ho, hdat, hcd⟩ := ok.gl.fn dr hdr
  refine Call_ (Name_function_global ok.kind hk (loadGlobal_global (mg := j.mg) (by rw [ok.glo]; exact ok.gl.g.keeps F.keep) hm' ?_) hd) he
  refine callWith_def (o := o) hdat (pes_cons h pes_nil hs ok s F pos _ _ fun vs s₁ x₁ hvs => ?_) hs
  obtain ⟨v, r, rfl, hv, hnil⟩ := RVs.cons_iff.mp hvs
  obtain rfl := RVs.nil_iff.mp hnil
  have hk₁ : ∀ b o, j.base.get? b = some o → s₁.heap.get? b = some o := fun b o e => x₁.get (F.keep b o e)
  have gl₁ := ok.gl.keeps hk₁
  refine ⟨hk₁ _ _ ho, wpAny_call (codeAny_call_generator (body := dr.body) (by have := ok.rm.depth; omega) (hk₁ _ _ ho) hdat hco hgen rfl (hcd.keeps hk₁) ?_)⟩
  rw [hbind]
  refine wpAny_pure (wpAny_newFunctionEnv_cells hkind (fun y hy => ?_) fun env henv s₂ X => ?_)
  · rw [List.mem_singleton.mp hy]; exact .inl hloc
  have henv' : env = envOfC dr.name dr.scope s₁.heap.objs.size a cd := henv
  subst henv'
  have hkp := X.toInCall.keep
  refine ⟨gl₁.nolimit.keeps hkp, ?_⟩
  obtain ⟨h₂, tk, rfl, _⟩ := X.done
  have hsz : s₁.heap.objs.size < h₂.objs.size := X.toInCall.ns.lt
  have x₂ : Ext s₁ { s₁ with heap := h₂.push { cls := .type "generator", data := .fields #[.int s₁.gens.size 0, .str dr.name tk, .str dr.name (tk + 1)] }, gens := s₁.gens.push (.fresh (.func dr.body (envOfC dr.name dr.scope s₁.heap.objs.size a cd))), toks := tk + 1 + 1 } :=
    ⟨fun b o _ e => Heap.get?_push_of_some _ (hkp b o e), by show _ ≤ (s₁.gens.push _).size; rw [Array.size_push]; exact Nat.le_succ _, fun i hi _ => by show (s₁.gens.push _)[i]? = _; rw [Array.getElem?_push_lt hi, Array.getElem?_eq_getElem hi], fun hb => AllBare.push hb rfl, rfl⟩
  have hne : s₁.heap.objs.size ≠ h₂.objs.size := Nat.ne_of_lt hsz
  refine hQ s₁ _ h₂.objs.size s₁.gens.size (fun b => b = s₁.heap.objs.size ∨ b = h₂.objs.size) x₁ x₂ rfl (by show _ ≤ (h₂.push _).objs.size; rw [Heap.size_push]; omega) ⟨_, _, _, Heap.get?_push_size _ rfl, rfl, rfl, rfl⟩
    fun A' R' => ⟨fun b => b = s₁.heap.objs.size, _, fun b => Iff.rfl, hne.symm, by show (s₁.gens.push _)[s₁.gens.size]? = _; exact Array.getElem?_push_size, ⟨_, _, _, Heap.get?_push_size _ rfl, rfl, rfl, rfl⟩, fun b q => ?_, fun b q => ?_, fun s'' hw hb => ?_⟩
  · rcases q with rfl | rfl
    · exact Nat.le_refl _
    · exact Nat.le_of_lt hsz
  · subst q
    obtain ⟨o', _, _, ho', _⟩ := X.toInCall.ns
    exact ⟨o', Heap.get?_push_of_some _ ho'⟩
  · show Sg _ _ _ _ _ _ _
    have hdead : ¬ Live j.base s₁.heap.objs.size := fun ⟨o, e⟩ => Nat.lt_irrefl _ (Heap.lt_size (hk₁ _ _ e))
    obtain ⟨t, rfl⟩ := RV.str_iff.mp hv
    refine hgs j.prog j.w j.mg j.mb A' R' s₁.heap.objs.size a cd j.base ok.gl l s'' ⟨hb, ?_, fun _ q => q, fun _ q => q.elim, ⟨_, (X.toInCall.ns.push _).at fun o e => hw _ o rfl e, fun y sv e => ?_⟩, ?_, ?_, ?_⟩
    · rintro b ((rfl | ⟨_, y, e⟩ | ⟨y, dd, e⟩) | q)
      · exact hdead
      · have e' : (envOfC dr.name dr.scope s₁.heap.objs.size a cd).cells.lookup y = some b := e
        rw [hcells] at e'; cases e'
      · rcases lookup_put e with ⟨_, e⟩ | ⟨_, e⟩ <;> cases e
      · exact q.elim
    · rcases lookup_put e with ⟨rfl, rfl⟩ | ⟨_, e⟩
      · refine ⟨_, .inl ⟨hloc, bindL_in (by simp) (List.mem_singleton.mpr rfl) hloc⟩, RV.str_iff.mpr ⟨t, rfl⟩⟩
      · cases e
    · intro y b e
      have e' : (envOfC dr.name dr.scope s₁.heap.objs.size a cd).cells.lookup y = some b := e
      rw [hcells] at e'; cases e'
    · intro y z b e
      have e' : (envOfC dr.name dr.scope s₁.heap.objs.size a cd).cells.lookup y = some b := e
      rw [hcells] at e'; cases e'
    · intro y z b dd dd' e
      rcases lookup_put e with ⟨_, e⟩ | ⟨_, e⟩ <;> cases e

/-- what the generator's record must be like -/
structure GenRec (dr : DefRec) : Prop where
  bind : ∀ v pm cd doc, bindArgs (docDef dr.name dr.params dr.body dr.scope pm cd doc) ⟨[v], []⟩ = pure [(("addr" : Str), v)]
  co : dr.scope.isCoroutine = false
  gen : dr.scope.isGenerator = true
  kind : dr.scope.kind = .function
  loc : dr.scope.names.lookup ("addr" : Str) = some .local
  cells : ∀ L a cd, (envOfC dr.name dr.scope L a cd).cells = []

theorem pi_gen {dr : DefRec} (hgs : GS j.fs j.cs dr) (hr : GenRec dr) (hn : 1 ≤ j.n) (hdr : dr ∈ j.fs) (h : PE j σ md e (.str (S l))) {x : Str} (hx : x = dr.name) (hk : j.env.kindOf x = some .globalImplicit)
    (hs : starEach [e] j.env = (false, eval e j.env) :: starEach [] j.env := by rfl)
    (he : eval (.Call (.Name x np) [e] [] pos) j.env = (do callWith pos (← eval (.Name x np) j.env) [] (backTo pos (starEach [e] j.env)) (backToKw pos (keywordEach [] j.env))) := by rfl)
    (hd : (x == ("__debug__" : Str)) = false := by decide) : PI j σ (.Call (.Name x np) [e] [] pos) tgt ((units l).map unitD) := fun ok s F Q E hQ =>
  ev_gen hgs hdr h hx hk hr.bind hr.co hr.gen hr.kind hr.loc hr.cells hs he hd ok F fun s₁ s₂ ga g W x₁ x₂ hg hsz hig hst => wpAny_pyIter_gen hig (hQ ga s₁ s₂ W _ _ x₁ x₂
    (gen_itr ok.gl ok.rm.handled (by have := ok.rm.depth; omega) (fun b o e => x₁.get (F.keep b o e)) F.dead) (hst j.A (ok.rm.le hn)) (fun g' q => by subst q; exact Nat.le_of_eq hg.symm) hsz)
end
end Pm

end
section
open PySem PySem.Calls PyProof.Rows
set_option Elab.async false
set_option linter.unusedVariables false
namespace Pm

theorem Rm.in2 {n : Nat} {A : Around} (x : Rm (n + 2) A) : Rm n A.in1.in1 := Rm.in1 (Rm.in1 x)

section
variable {prog : Program} {w : World} {A : Around} {c : Cx} {σ : Sto} {s₁ : Shared} {ga : Addr} {ds : List PyData} {G : Nat → Prop} {St : Nat → (Addr → Prop) → Shared → Prop} {R : Result → Shared → Prop} {xp : Pos}

theorem extend_itr (I : Itr prog w A.in1 c σ s₁ ga (.Name "x" xp) ds G St) (hG : ∀ i, G i → s₁.gens.size ≤ i) (hav : ∀ b, avC c σ b → Live s₁.heap b) (S : Addr) (hS₁ : ¬ Live s₁.heap S) (res : Value) (hz : ds.length < 1000) :
    ∀ (k i : Nat) (s : Shared) (acc : Array Value) (cn : Nat) (W : Addr → Prop), ds.length - i = k → i ≤ ds.length → St i W s → Ext s₁ s → s₁.heap.objs.size ≤ s.heap.objs.size → ¬ W S → s.heap.get? S = some { cls := .type "list", dict := none, data := .seq acc cn, slots := #[] } →
      RVs (fun b => (avC c σ b ∨ b = S) ∨ W b) s.heap (ds.take i) acc.toList → acc.size ≤ i →
      (∀ s' acc' cn', Ext s₁ s' → s'.heap.get? S = some { cls := .type "list", dict := none, data := .seq acc' cn', slots := #[] } → RVs (fun b => avC c σ b ∨ b = S) s'.heap ds acc'.toList → R (.ok (.ret res)) s') →
      codeAny (model prog w) A (.builtin "list.extend.loop" ⟨[.ref S, .ref ga, res], []⟩) R s := by
  intro k
  induction k with
  | zero =>
    intro i s acc cn W hk hi hst x hsz hSW hS hr hac hR
    have hin : i = ds.length := by omega
    subst hin
    refine codeAny_builtin F.entry_extend_loop ?_
    rw [Around.under_plainId F.plain_extend_loop _]
    show wpAny _ A.in1 (pyNext (.ref ga) >>= _) _ _ s
    refine wpAny_bind (I.stop W s hst (fun b o _ e => x.get e) _ _ fun s' C => ?_)
    have hWd := I.dead _ _ _ hst
    rw [List.take_length] at hr
    exact wpAny_pure (hR s' acc cn (ChgG.then x C (fun b w => .inr (hWd b w)) fun g q => .inr (hG g q)) (C.keep S _ hSW hS) ((hr.move (fun b o hb e => C.keep b o (fun w => hb (.inr w)) e) fun b q => .inl q).thin fun b q => .inl q))
  | succ k ih =>
    intro i s acc cn W hk hi hst x hsz hSW hS hr hac hR
    have hlt : i < ds.length := by omega
    have hd : ds[i]? = some ds[i] := List.getElem?_eq_getElem hlt
    have hWd := I.dead _ _ _ hst
    refine codeAny_builtin F.entry_extend_loop ?_
    rw [Around.under_plainId F.plain_extend_loop _]
    show wpAny _ A.in1 (pyNext (.ref ga) >>= _) _ _ s
    refine wpAny_bind (wpAny_mono (I.step i W ds[i] s hd hst (fun b o _ e => x.get e) (fun b => avC c σ b ∨ b = S) (fun b q => q.elim (fun q => x.live (hav b q)) fun (e : b = S) => e ▸ ⟨_, hS⟩) (fun b q => q.elim .inl fun (e : b = S) => .inr (e ▸ hS₁))
      (fun b q w => q.elim (fun q => hWd b w (hav b q)) fun (e : b = S) => hSW (e ▸ w)) hsz (fun v s' => wpAny (model prog w) A.in1 (updateSeq S (·.push v) >>= fun _ => again (.builtin "list.extend.loop" ⟨[.ref S, .ref ga, res], []⟩))
        (fun fin s' => match fin with | .done f => R (.ok f) s' | .again c' => c'.quiet = true ∧ codeAny (model prog w) A c' R s') (fun e s' => R (.error e) s') s') (fun s₂ => wpAny (model prog w) A.in1 (ret res) (fun fin s' => match fin with | .done f => R (.ok f) s' | .again c' => c'.quiet = true ∧ codeAny (model prog w) A c' R s') (fun e s' => R (.error e) s') s₂) _
      fun v s' W' C hs' hst' hnew hv => ?_) (fun r s₂ h => ?_) fun _ _ e => e)
    · have hS' : s'.heap.get? S = some { cls := .type "list", dict := none, data := .seq acc cn, slots := #[] } := C.keep S _ hSW hS
      have x' : Ext s₁ s' := ChgG.then x C (fun b w => .inr (hWd b w)) fun g q => .inr (hG g q)
      have hSW' : ¬ W' S := fun w => (hnew S w).elim hSW fun l => dead_above l ⟨_, hS⟩
      have hlive' := I.live _ _ _ hst' fun b o _ e => x'.get e
      have e : sizeLine = 16777216 := by decide
      refine wpAny_bind (wpAny_updateSeq hS' rfl ?_ (by omega) (by show (acc.push v).size ≤ sizeLine + 1; rw [Array.size_push]; omega))
      have ko : ∀ b o, b ≠ S → s'.heap.get? b = some o → (s'.heap.update S (Obj.mapSeq (·.push v))).get? b = some o := fun b o hb e => (Heap.get?_update_other _ _ (Ne.symm hb)).trans e
      have C₂ : ChgG (fun b => b = S) (fun _ => False) s' { s' with heap := s'.heap.update S (Obj.mapSeq (·.push v)) } := ⟨fun b o hb e => ko b o hb e, Nat.le_refl _, fun _ _ _ => rfl, id, rfl⟩
      refine wpAny_pure ⟨plainId_quiet F.plain_extend_loop _, ih (i + 1) _ (acc.push v) _ W' (by omega) hlt (I.frame _ _ s' _ hst' (fun b o w e => ko b o (fun q => hSW' (q ▸ w)) e) fun _ _ => rfl) (ChgG.next x' C₂ fun b q => .inr (q ▸ hS₁))
        (by show _ ≤ (s'.heap.update S _).objs.size; rw [upd_size]; exact Nat.le_trans hsz hs') hSW' (Heap.get?_update_self _ hS' rfl) ?_ (by rw [Array.size_push]; omega) hR⟩
      rw [List.take_add_one, hd, Array.toList_push]
      refine RVs.append ((hr.move (fun b o hb e => C.keep b o (fun w => hb (.inr w)) e) fun b q => q.elim (fun q => .inl (.inl q)) fun w => (hnew b w).imp .inr dead_above).move (fun b o hb e => ko b o (fun q => hb (.inl (.inr q))) e) fun b q => .inl q) (.cons (hv.move (fun b o hb e => ko b o (fun q => hb (.inl (.inr q))) e) fun b q => .inl q) .nil)
    · cases r with
      | none =>
        exact h
      | some v => exact fun Γ p hΓ => h Γ p hΓ Γ p hΓ

theorem call_list_itr {s : Shared} {W : Addr → Prop} {g : Nat} {E : Value → Shared → Prop} {Q : Value → Shared → Prop} (I : Itr prog w A.in1.in1 c σ s₁ ga (.Name "x" xp) ds G St) (hG : ∀ i, G i → s₁.gens.size ≤ i) (hav : ∀ b, avC c σ b → Live s₁.heap b) (hz : ds.length < 1000)
    (hst : St 0 W s) (x : Ext s₁ s) (hsz : s₁.heap.objs.size ≤ s.heap.objs.size) (hig : s.heap.IsGen ga g)
    (hQ : ∀ S s' acc cn, ¬ Live s₁.heap S → Ext s₁ s' → s'.heap.get? S = some { cls := .type "list", dict := none, data := .seq acc cn, slots := #[] } → RVs (fun b => avC c σ b ∨ b = S) s'.heap ds acc.toList → Q (.ref S) s') :
    wpAny (model prog w) A (call (.type "list") [.ref ga]) Q E s := by
  have hlive := I.live _ _ _ hst fun b o _ e => x.get e
  have hSd : ¬ Live s.heap s.heap.objs.size := new_dead
  have hS₁ : ¬ Live s₁.heap s.heap.objs.size := fun l => hSd (x.live l)
  have hSW : ¬ W s.heap.objs.size := fun w => hSd (hlive.1 _ w)
  have hgaS : ga ≠ s.heap.objs.size := fun q => hSd (q ▸ let ⟨o, _, _, ho, _⟩ := hig; ⟨o, ho⟩)
  refine callType_codes (Q₁ := fun obj s' => obj = .ref s.heap.objs.size ∧ s' = { s with heap := s.heap.push { cls := .type "list", data := .seq #[] } }) F.called_list (F.typeCall_list_1 _) F.entry_list_init
    (code_list_new _ ⟨rfl, rfl⟩) fun obj s' h' => ?_
  obtain ⟨rfl, rfl⟩ := h'
  generalize hSS : s.heap.objs.size = S at *
  have hS : (s.heap.push { cls := .type "list", data := .seq #[] }).get? S = some { cls := .type "list", data := .seq #[] } := hSS ▸ Heap.get?_push_size _ rfl
  refine ⟨⟨_, hS, rfl⟩, F.args_list_init_2 _ _, ?_⟩
  show wpAny _ A.in1.in1 (do let old ← Builtin.List.listItems (.ref S); Builtin.List.listUpdate (.ref S) (fun _ => #[]); letGo old.toList.reverse; Builtin.List.listExtendWith (.ref S) (.ref ga) .none) _ _ _
  refine wpAny_bind ?_
  unfold Builtin.List.listItems
  refine wpAny_bind (wpAny_seqItems hS rfl (wpAny_pure ?_))
  show wpAny _ A.in1.in1 (updateSeq S (fun _ => #[]) >>= fun _ => letGo (#[] : Array Value).toList.reverse >>= fun _ => Builtin.List.listExtendWith (.ref S) (.ref ga) .none) _ _ _
  refine wpAny_bind (wpAny_updateSeq hS rfl ?_)
  have hS₂ := Heap.get?_update_self (Obj.mapSeq (fun _ => (#[] : Array Value))) hS rfl
  generalize hH2 : (s.heap.push { cls := .type "list", data := .seq #[] }).update S (Obj.mapSeq (fun _ => (#[] : Array Value))) = H2 at hS₂ ⊢
  have k2 : ∀ b o, s.heap.get? b = some o → H2.get? b = some o := fun b o e => by
    rw [← hH2]; exact (Heap.get?_update_other _ _ (fun q : S = b => hSd (q ▸ ⟨_, e⟩))).trans (Heap.get?_push_of_some _ e)
  refine wpAny_bind (wpAny_letGo ?_)
  unfold Builtin.List.listExtendWith
  have hig₂ : H2.IsGen ga g := hig.keeps k2
  refine wpAny_bind (wpAny_typeOf (Heap.IsGen.typeIs (s := { s with heap := H2 }) hig₂) ?_)
  have h1 : Builtin.List.listSameRef (.ref S) (.ref ga) = false := by simp [Builtin.List.listSameRef, hgaS.symm]
  have h2 : (Value.type "generator" == Value.type "list") = false := by decide
  have h3 : (Value.type "generator" == Value.type "tuple") = false := by decide
  simp only [h1, h2, h3, Bool.or_false, Bool.false_eq_true, if_false]
  refine wpAny_bind (wpAny_pyIter_gen hig₂ ?_)
  refine wpAny_bind (wpAny_holding ?_)
  unfold Builtin.List.listLengthHint
  refine wpAny_bind (wpAny_specialOf (Heap.IsGen.typeIs (s := { s with heap := H2 }) hig₂) F.gen_no_len ?_)
  show wpAny _ A.in1.in1 (specialOf (Value.ref ga) (Str.ofString "__length_hint__") >>= _) _ _ _
  refine wpAny_bind (wpAny_specialOf (Heap.IsGen.typeIs (s := { s with heap := H2 }) hig₂) F.gen_no_hint ?_)
  refine wpAny_pure ?_
  show wpAny _ A.in1.in1 (rule "list.extend.makes-room" >>= fun _ => Builtin.List.listTouch (.ref S) >>= fun _ =>
    again (.builtin "list.extend.loop" ⟨[.ref S, .ref ga, .none], []⟩)) _ _ _
  refine wpAny_bind (wpAny_rule ?_)
  refine wpAny_bind ?_
  show wpAny _ A.in1.in1 (updateSeq S (·.push .none) >>= fun _ => updateSeq S (·.pop)) _ _ _
  refine wpAny_bind (wpAny_updateSeq hS₂ rfl ?_)
  have hS₃ := Heap.get?_update_self (Obj.mapSeq (·.push Value.none)) hS₂ rfl
  refine wpAny_updateSeq (hz := by seq_fits) hS₃ rfl ?_
  have hS₄ := Heap.get?_update_self (Obj.mapSeq (·.pop)) hS₃ rfl
  generalize hH4 : (H2.update S (Obj.mapSeq (·.push Value.none))).update S (Obj.mapSeq (·.pop)) = H4 at hS₄ ⊢
  have k4 : ∀ b o, s.heap.get? b = some o → H4.get? b = some o := fun b o e => by
    have hb : S ≠ b := fun q => hSd (q ▸ ⟨_, e⟩)
    rw [← hH4]; exact (Heap.get?_update_other _ _ hb).trans ((Heap.get?_update_other _ _ hb).trans (k2 b o e))
  have x4 : Ext s { s with heap := H4 } := Ext.heap k4
  refine wpAny_pure ⟨plainId_quiet F.plain_extend_loop _, extend_itr I hG hav S hS₁ .none hz ds.length 0 _ _ _ W rfl (Nat.zero_le _) (I.frame 0 W s _ hst (fun b o _ e => k4 b o e) fun _ _ => rfl) (x.thenExt x4) ?_ hSW hS₄ .nil (Nat.le_refl _) fun s' acc cn x' hS' hr => ?_⟩
  · show _ ≤ H4.objs.size
    rw [← hH4, upd_size, upd_size, ← hH2, upd_size, Heap.size_push, hSS]
    exact Nat.le_succ_of_le hsz
  · exact ⟨rfl, hQ S s' acc cn hS₁ x' hS' hr⟩
end

section
variable {j : J} {σ : Sto} {md : Md} {e : PySem.Expr} {l : List Nat} {pos np lp lpos : Pos}

theorem pe_listGen {dr : DefRec} (hgs : GS j.fs j.cs dr) (hr : GenRec dr) (hn : 3 ≤ j.n) (hdr : dr ∈ j.fs) (h : PE j σ md e (.str (S l))) (hz : (units l).length < 1000) {x : Str} (hx : x = dr.name) (hk : j.env.kindOf x = some .globalImplicit) (hkl : j.env.kindOf "list" = some .globalImplicit := by rfl)
    (hs : starEach [e] j.env = (false, eval e j.env) :: starEach [] j.env := by rfl)
    (he : eval (.Call (.Name x np) [e] [] pos) j.env = (do callWith pos (← eval (.Name x np) j.env) [] (backTo pos (starEach [e] j.env)) (backToKw pos (keywordEach [] j.env))) := by rfl)
    (hs' : starEach [.Call (.Name x np) [e] [] pos] j.env = (false, eval (.Call (.Name x np) [e] [] pos) j.env) :: starEach [] j.env := by rfl)
    (he' : eval (.Call (.Name "list" lp) [.Call (.Name x np) [e] [] pos] [] lpos) j.env = (do callWith lpos (← eval (.Name "list" lp) j.env) [] (backTo lpos (starEach [.Call (.Name x np) [e] [] pos] j.env)) (backToKw lpos (keywordEach [] j.env))) := by rfl)
    (hd : (x == ("__debug__" : Str)) = false := by decide) : PE j σ .frozen (.Call (.Name "list" lp) [.Call (.Name x np) [e] [] pos] [] lpos) (.list ((units l).map unitD)) := fun ok s F Q E hQ => by
  refine Call_ (ev_builtin ok F (by simp) hkl boot_list (by decide) (by decide) (PyProof.Rows.callWith_type1 ?_ hs' rfl)) he'
  refine wpAny_items_cons (ev_gen hgs hdr h hx hk hr.bind hr.co hr.gen hr.kind hr.loc hr.cells hs he hd ok F fun s₁ s₂ ga g W x₁ x₂ hg hsz hig hst => wpAny_items_nil ?_) hs'
  have R1 : Rm 1 j.A.in1.in1 := Rm.in2 (ok.rm.le hn)
  refine call_list_itr (A := j.A) (xp := pos) (gen_itr ok.gl (show j.A.in1.in1.handled = none from ok.rm.handled) (by have := R1.depth; omega) (fun b o e => x₁.get (F.keep b o e)) F.dead) (fun g' q => by subst q; exact Nat.le_of_eq hg.symm)
    (fun b q => x₁.live (F.avLive q)) (by simpa using hz) (hst _ R1) x₂ hsz hig fun S' s' acc cn hS x' hS' hr' => ?_
  refine hQ _ s' (x₁.thenExt x') (RV.list_iff.mpr ⟨S', acc, rfl, fun q => hS (x₁.live (F.avLive q)), ⟨cn, hS'⟩, hr'.thin fun b q => .inl q⟩)
end
end Pm

end
section
open PySem PySem.Calls PyProof.Rows
set_option Elab.async false
set_option linter.unusedVariables false
namespace Pm

theorem ff : Md.frozen ≠ Md.trans := nofun
theorem fr : Md.fresh ≠ Md.trans := nofun
theorem bitAnd_nat (a b : Nat) : Builtin.bitAnd (a : Int) (b : Int) = ((a &&& b : Nat) : Int) := by rw [bitAnd_pp (by omega) (by omega)]; simp
theorem bitOr_nat (a b : Nat) : Builtin.bitOr (a : Int) (b : Int) = ((a ||| b : Nat) : Int) := by
  rw [bitOr_and, bitAnd_nat]; have := nat_or_add_and a b; omega
theorem nat_xor_add_and (a b : Nat) : (a ^^^ b) + (a &&& b) = a ||| b := by
  have h := nat_or_add_and (a ^^^ b) (a &&& b)
  have h1 : (a ^^^ b) &&& (a &&& b) = 0 := by
    apply Nat.eq_of_testBit_eq; intro i; simp only [Nat.testBit_and, Nat.testBit_or, Nat.testBit_xor, Nat.zero_testBit]; cases a.testBit i <;> cases b.testBit i <;> rfl
  have h2 : (a ^^^ b) ||| (a &&& b) = a ||| b := by
    apply Nat.eq_of_testBit_eq; intro i; simp only [Nat.testBit_and, Nat.testBit_or, Nat.testBit_xor, Nat.zero_testBit]; cases a.testBit i <;> cases b.testBit i <;> rfl
  omega
theorem bitXor_nat (a b : Nat) : Builtin.bitXor (a : Int) (b : Int) = ((a ^^^ b : Nat) : Int) := by
  have e : Builtin.bitXor (a : Int) (b : Int) = Builtin.bitOr a b - Builtin.bitAnd a b := rfl
  rw [e, bitOr_nat, bitAnd_nat]; have := nat_xor_add_and a b; omega

section
variable {n : Nat} {prog : Program} {w : World} {a b : Nat}
theorem c_eqN : Cop n prog w .Eq (.int (a : Int)) (.int (b : Int)) (a == b) := by
  have e : ((a : Int) == (b : Int)) = (a == b) := by rw [Bool.eq_iff_iff]; simp only [beq_iff_eq]; omega
  have := @c_eq_int n prog w a b
  rwa [e] at this
theorem c_neN : Cop n prog w .NotEq (.int (a : Int)) (.int (b : Int)) (a != b) := by
  have e : ((a : Int) != (b : Int)) = (a != b) := by rw [Bool.eq_iff_iff]; simp only [bne_iff_ne]; omega
  have := @c_ne_int n prog w a b
  rwa [e] at this
theorem c_ltN : Cop n prog w .Lt (.int (a : Int)) (.int (b : Int)) (decide (a < b)) := by
  have e : decide ((a : Int) < (b : Int)) = decide (a < b) := by simp
  have := @c_lt_int n prog w a b
  rwa [e] at this
theorem c_eqS {x y : List Nat} : Cop n prog w .Eq (.str (S x)) (.str (S y)) (x == y) := S_beq x y ▸ c_eq_str
theorem c_neS {x y : List Nat} : Cop n prog w .NotEq (.str (S x)) (.str (S y)) (x != y) := by
  have e : (S x != S y) = (x != y) := by simp only [bne, S_beq]
  exact e ▸ c_ne_str
end

section
variable {j : J} {σ : Sto} {md md₁ md₂ : Md} {e e₁ e₂ : PySem.Expr} {pos : Pos} {a b : Nat} {x y : List Nat} {k : Nat}

theorem pe_lit (n : Nat) {i : Int} (h : i = (n : Int) := by rfl) : PE j σ .fresh (.Constant (.int i) k pos) (.int (n : Int)) := h ▸ pe_int
theorem pe_strS (l : List Nat) {s : Str} (h : s = S l := by decide +kernel) : PE j σ .fresh (.Constant (.str s) k pos) (.str (S l)) := h ▸ pe_str
theorem pe_addN (h₁ : PE j σ md₁ e₁ (.int (a : Int))) (h₂ : PE j σ md₂ e₂ (.int (b : Int))) : PE j σ .fresh (.BinOp e₁ .Add e₂ pos) (.int ((a + b : Nat) : Int)) := (pe_add h₁ h₂).eq (by push_cast; rfl)
theorem pe_subN (h₁ : PE j σ md₁ e₁ (.int (a : Int))) (h₂ : PE j σ md₂ e₂ (.int (b : Int))) (h : b ≤ a) : PE j σ .fresh (.BinOp e₁ .Sub e₂ pos) (.int ((a - b : Nat) : Int)) := (pe_sub h₁ h₂).eq (by congr 1; omega)
theorem pe_mulN (h₁ : PE j σ md₁ e₁ (.int (a : Int))) (h₂ : PE j σ md₂ e₂ (.int (b : Int))) (hb : b < 2 ^ 60) : PE j σ .fresh (.BinOp e₁ .Mult e₂ pos) (.int ((a * b : Nat) : Int)) :=
  (pe_mul h₁ h₂ (IntMulOk.of_right (by
    unfold Builtin.Int.intBits
    by_cases h0 : b = 0
    · subst h0; simp
    · have : b.log2 < 60 := (Nat.log2_lt h0).mpr hb
      simp; split <;> omega))).eq (by push_cast; rfl)
theorem pe_divN (h₁ : PE j σ md₁ e₁ (.int (a : Int))) (h₂ : PE j σ md₂ e₂ (.int (b : Int))) (hb : b ≠ 0) (hb' : b < 1073741824) : PE j σ .fresh (.BinOp e₁ .FloorDiv e₂ pos) (.int ((a / b : Nat) : Int)) :=
  (pe_fdiv h₁ h₂ (by omega) (PyProof.noPylong_small (by simpa using hb'))).eq (by
    congr 1; rw [Int.fdiv_eq_ediv_of_nonneg _ (by omega)]; try simp)
theorem pe_modN (h₁ : PE j σ md₁ e₁ (.int (a : Int))) (h₂ : PE j σ md₂ e₂ (.int (b : Int))) (hb : b ≠ 0) : PE j σ .fresh (.BinOp e₁ .Mod e₂ pos) (.int ((a % b : Nat) : Int)) :=
  (pe_fmod h₁ h₂ (by omega)).eq (by rw [Int.fmod_eq_emod_of_nonneg _ (by omega)]; try simp)
theorem pe_powN (h₁ : PE j σ md₁ e₁ (.int (a : Int))) (h₂ : PE j σ md₂ e₂ (.int (b : Int))) (hb : b ≤ 1000000) (ha : a < 2 ^ 64) : PE j σ .fresh (.BinOp e₁ .Pow e₂ pos) (.int ((a ^ b : Nat) : Int)) :=
  (pe_pow h₁ h₂ (by omega) (by omega) (by simpa using ha)).eq (by simp)
theorem pe_shlN (h₁ : PE j σ md₁ e₁ (.int (a : Int))) (h₂ : PE j σ md₂ e₂ (.int (b : Int))) (hb : b ≤ 1000000) (ha : a < 2 ^ 64) : PE j σ .fresh (.BinOp e₁ .LShift e₂ pos) (.int ((a * 2 ^ b : Nat) : Int)) :=
  (pe_shl h₁ h₂ (by omega) (by omega) (by simpa using ha)).eq (by congr 1; try push_cast; try simp)
theorem pe_andN (h₁ : PE j σ md₁ e₁ (.int (a : Int))) (h₂ : PE j σ md₂ e₂ (.int (b : Int))) : PE j σ .fresh (.BinOp e₁ .BitAnd e₂ pos) (.int ((a &&& b : Nat) : Int)) := (pe_and h₁ h₂).eq (by rw [bitAnd_nat])
theorem pe_orN (h₁ : PE j σ md₁ e₁ (.int (a : Int))) (h₂ : PE j σ md₂ e₂ (.int (b : Int))) : PE j σ .fresh (.BinOp e₁ .BitOr e₂ pos) (.int ((a ||| b : Nat) : Int)) := (pe_or h₁ h₂).eq (by rw [bitOr_nat])
theorem pe_xorN (h₁ : PE j σ md₁ e₁ (.int (a : Int))) (h₂ : PE j σ md₂ e₂ (.int (b : Int))) : PE j σ .fresh (.BinOp e₁ .BitXor e₂ pos) (.int ((a ^^^ b : Nat) : Int)) := (pe_xor h₁ h₂).eq (by rw [bitXor_nat])
theorem pe_catS (h₁ : PE j σ md₁ e₁ (.str (S x))) (h₂ : PE j σ md₂ e₂ (.str (S y))) (hz : x.length + y.length ≤ 1000000) : PE j σ .fresh (.BinOp e₁ .Add e₂ pos) (.str (S (x ++ y))) :=
  (pe_cat h₁ h₂ (by rw [S_len, S_len]; have e : sizeLine = 16777216 := by decide
                    omega)).eq (by rw [S_app])

theorem se_one {st : Stmt} {P : RF → Sto → Prop} (h : S1 j σ st P) : SE j σ [st] P := se_cons h (fun _ hp => se_nil hp) fun _ _ _ hp => hp
theorem S1.weak {st : Stmt} {P₁ P : RF → Sto → Prop} (h : S1 j σ st P₁) (hp : ∀ rf τ, P₁ rf τ → P rf τ) : S1 j σ st P := fun ok s F Q E hQ => h ok s F Q E fun rf f σ' s' q => hQ rf f σ' s' (hp rf σ' q)
/-- a statement that only goes on, its end told by a property -/
theorem se_go {st : Stmt} {rest : List Stmt} {P₁ : Sto → Prop} {P : RF → Sto → Prop} (h : S1 j σ st fun rf τ => rf = .next ∧ P₁ τ) (hn : ∀ τ, P₁ τ → SE j τ rest P) : SE j σ (st :: rest) P :=
  se_cons h (fun τ hp => hn τ hp.2) fun rf τ hne hp => absurd hp.1 hne
theorem tgt_pair {env : Env} {x y : Str} {p q r : Pos} {n : Nat} (hx : Storable env x) (hy : Storable env y) {ds : List PyData} (h : ∀ d ∈ ds, ∃ u v, d = .tuple [u, v]) : ∀ d ∈ ds, TgtOk env (.Tuple [.Name x p, .Name y q] n r) d := fun d hd => by
  obtain ⟨u, v, rfl⟩ := h d hd; exact .two ⟨hx, hy⟩
theorem tgt_name {env : Env} {x : Str} {p : Pos} (hx : Storable env x) {ds : List PyData} : ∀ d ∈ ds, TgtOk env (.Name x p) d := fun d _ => .one hx
theorem enumD_pair {ds : List PyData} : ∀ d ∈ enumD ds, ∃ u v, d = .tuple [u, v] := fun d hd => by
  obtain ⟨i, hi⟩ := List.mem_iff_getElem?.mp hd
  obtain ⟨x, _, rfl⟩ := enumD_get hi
  exact ⟨_, _, rfl⟩
theorem enumD_len {ds : List PyData} : (enumD ds).length = ds.length := by simp [enumD]
theorem rng_len {a c : Int} {n : Nat} : (rng a c n).length = n := by simp [rng]
end
end Pm

end
section
open PySem PySem.Calls PyProof.Rows
set_option Elab.async false
set_option linter.unusedVariables false
namespace Pm

/-- texts with a sign between -/
def joinL (sep : List Nat) : List (List Nat) → List Nat
  | [] => []
  | [x] => x
  | x :: y :: r => x ++ sep ++ joinL sep (y :: r)
theorem join_S (sep : List Nat) : ∀ ls : List (List Nat), Txt.join (S sep) (ls.map S) = S (joinL sep ls) := by
  intro ls
  show Builtin.Str.glued (S sep) (ls.map S) = _
  rw [StrLaws.glued_eq_join]
  induction ls with
  | nil => rfl
  | cons x r ih =>
    cases r with
    | nil => rfl
    | cons y r =>
      show S x ++ S sep ++ Str.join (S sep) ((y :: r).map S) = S (x ++ sep ++ joinL sep (y :: r))
      rw [ih, S_app, S_app]
theorem joinL_nil : ∀ ls : List (List Nat), joinL [] ls = ls.flatten
  | [] => rfl
  | [x] => by simp [joinL]
  | x :: y :: r => by rw [joinL, joinL_nil (y :: r)]; simp
theorem flat_sing (l : List Nat) : (l.map fun c => [c]).flatten = l := by induction l <;> simp_all

section
variable {j : J} {σ : Sto} {md md₁ md₂ : Md} {e e₁ e₂ o : PySem.Expr} {pos ap : Pos} {a b : Nat} {x y : List Nat} {k : Nat}
/-- ''.join -/
theorem pe_join0 {ls : List (List Nat)} {pl : Sem Bool} (h₁ : PE j σ md₁ o (.str (S []))) (h₂ : PE j σ md₂ e (.list (ls.map fun l => .str (S l)))) (hz : ls.flatten.length ≤ 1000000)
    (hs : starEach [e] j.env = (false, eval e j.env) :: starEach [] j.env := by rfl)
    (he : eval (.Call (.Attribute o "join" ap) [e] [] pos) j.env = (do
      let ov ← eval o j.env
      standAt ap.atName
      let (f, first) ← holding [ov] (getMethod ov "join" pl)
      callWith pos f first (backTo pos (starEach [e] j.env)) []) := by rfl) : PE j σ .fresh (.Call (.Attribute o "join" ap) [e] [] pos) (.str (S ls.flatten)) := by
  have h := pe_join (ys := ls.map S) (pl := pl) (ap := ap) (pos := pos) h₁ (by rw [List.map_map]; exact h₂) (by
    have e1 : ((ls.map S).map (·.length)).sum = ls.flatten.length := by
      rw [List.map_map, List.length_flatten]; congr 1
    have e2 : (ls.map S).length * (S []).length = 0 := by rw [S_len]; simp
    rw [e2]; exact Nat.le_trans (Nat.le_of_eq e1) (by omega)) hs he
  rw [join_S, joinL_nil] at h
  exact h
end
end Pm

end
section
open PySem PySem.Calls PyProof.Rows
set_option Elab.async false
set_option linter.unusedVariables false
namespace Pm

theorem clip (a n : Nat) : max 0 (min (a : Int) (n : Int)) = ((min a n : Nat) : Int) := by omega
theorem cut_len (x y : Nat) : (if (x : Int) < (y : Int) then ((y : Int) - (x : Int) + 1 - 1) / 1 else 0).toNat = y - x := by
  rw [Int.ediv_one]; split <;> omega
theorem slice_idx (a b n : Nat) : Builtin.Str.strSliceIndices (some (a : Int)) (some (b : Int)) 1 n = (List.range (min b n - min a n)).map (fun k => min a n + k) := by
  unfold Builtin.Str.strSliceIndices sliceRange
  have ha : ¬ ((a : Int) < 0) := Int.not_lt.mpr (Int.natCast_nonneg a)
  have hb : ¬ ((b : Int) < 0) := Int.not_lt.mpr (Int.natCast_nonneg b)
  simp only [ha, hb, if_false, show (1 : Int) > 0 from by decide, if_true]
  rw [clip, clip, cut_len]
  apply List.map_congr_left
  intro k _
  rw [Int.one_mul, ← Int.natCast_add, Int.toNat_natCast]
theorem pick_range {α : Type} (l : List α) : ∀ (n a : Nat), a + n ≤ l.length → ((List.range n).map (fun k => a + k)).filterMap (l[·]?) = (l.drop a).take n := by
  intro n
  induction n with
  | zero => intro a _; simp
  | succ n ih =>
    intro a h
    rw [List.range_succ, List.map_append, List.filterMap_append, ih a (by omega), List.take_add_one]
    congr 1
    have : a + n < l.length := by omega
    simp [List.getElem?_drop, this]
theorem slice_S (l : List Nat) (a b : Nat) : Txt.slice (S l) (some (a : Int)) (some (b : Int)) = S ((l.take b).drop a) := by
  unfold Txt.slice
  rw [S_len, slice_idx]
  have key : ((List.range (min b l.length - min a l.length)).map (fun k => min a l.length + k)).filterMap ((S l).cps[·]?) = (l.take b).drop a := by
    have e : (fun (i : Nat) => (S l).cps[i]?) = fun (i : Nat) => l[i]? := by funext i; simp [S]
    rw [e, pick_range l _ _ (by omega)]
    by_cases h : a ≤ l.length
    · rw [Nat.min_eq_left h]
      by_cases hb : b ≤ l.length
      · rw [Nat.min_eq_left hb, List.drop_take]
      · rw [Nat.min_eq_right (by omega), List.take_of_length_le (show l.length ≤ b by omega), List.take_of_length_le (by simp)]
    · have h0 : min b l.length - min a l.length = 0 := by omega
      rw [List.drop_eq_nil_of_le (show (List.take b l).length ≤ a by simp; omega), h0, List.take_zero]
  split
  · rename_i h
    have hl : min b l.length - min a l.length = l.length := by simpa using h
    have : (l.take b).drop a = l := by
      by_cases h0 : l.length = 0
      · have : l = [] := List.length_eq_zero_iff.mp h0
        subst this; simp
      · have ha : a = 0 := by omega
        subst ha; rw [List.drop_zero, List.take_of_length_le (by omega)]
    rw [this]
  · rw [key]
theorem slice_S_from (l : List Nat) (a : Nat) : Txt.slice (S l) (some (a : Int)) none = S (l.drop a) := by
  have : Txt.slice (S l) (some (a : Int)) none = Txt.slice (S l) (some (a : Int)) (some (l.length : Int)) := by
    unfold Txt.slice; rw [StrLaws.sliceIdx_none_hi, S_len]
  rw [this, slice_S, List.take_of_length_le (Nat.le_refl _)]
/-- one sign within a text -/
theorem contains_S (l : List Nat) (c : Nat) : Txt.contains (S l) (S [c]) = decide (c ∈ l) := by
  have h := StrLaws.found_one (S l) c
  show (!(Builtin.Str.occurrences (S l) ⟨#[c]⟩ 0 (S l).length 1).isEmpty) = _
  rw [h]
theorem cnt_eq (c : Nat) : ∀ l : List Nat, cnt c l = (l.count c : Nat)
  | [] => rfl
  | n :: r => by
    rw [cnt_cons, cnt_eq c r, List.count_cons]
    by_cases h : n = c <;> simp [h] <;> omega
theorem count_S (l : List Nat) (c : Nat) : Txt.count (S l) (S [c]) = (l.count c : Nat) := by
  show Txt.count (S l) ⟨#[c]⟩ = _
  rw [count_is, ← cnt_eq]; rfl
end Pm

end
section
open PySem PySem.Calls PyProof.Rows
set_option Elab.async false
set_option linter.unusedVariables false
set_option maxRecDepth 100000
namespace Pm

def FSS : List DefRec := recsOf PySem.Challenge.pw_pm0026_01
def dNone : DefRec := ⟨"", { posonlyargs := [], args := [], vararg := none, kwonlyargs := [], kw_defaults := [], kwarg := none, defaults := [] }, [], { kind := .function, names := [], isGenerator := false, isCoroutine := false, more := [] }, ⟨0,0,0,0⟩⟩
def dR (i : Nat) : DefRec := FSS.getD i dNone
theorem FSS_len : FSS.length = 13 := by decide +kernel
theorem dR_mem (i : Nat) (h : i < 13) : dR i ∈ FSS := by
  unfold dR; rw [List.getD_eq_getElem?_getD, List.getElem?_eq_getElem (by rw [FSS_len]; exact h)]; exact List.getElem_mem _

theorem nm0 : ("_iter_escaped_chars" : Str) = (dR 0).name := by decide +kernel
theorem nm1 : ("_strip_quoted_realnames" : Str) = (dR 1).name := by decide +kernel
theorem nm2 : ("_check_parenthesis" : Str) = (dR 2).name := by decide +kernel
theorem nm3 : ("S_IMODE" : Str) = (dR 3).name := by decide +kernel
theorem nm4 : ("S_IFMT" : Str) = (dR 4).name := by decide +kernel
theorem nm5 : ("filemode" : Str) = (dR 5).name := by decide +kernel
theorem nm6 : ("_law_row" : Str) = (dR 6).name := by decide +kernel
theorem nm7 : ("_law_bits" : Str) = (dR 7).name := by decide +kernel
theorem nm8 : ("_law_ones" : Str) = (dR 8).name := by decide +kernel
theorem nm9 : ("_law_taken" : Str) = (dR 9).name := by decide +kernel
theorem nm10 : ("_law_hidden" : Str) = (dR 10).name := by decide +kernel
theorem nm11 : ("_law_read" : Str) = (dR 11).name := by decide +kernel
def tables : List (List (Nat × Nat)) := [[(40960, 108), (49152, 115), (32768, 45), (24576, 98), (16384, 100), (8192, 99), (4096, 112)], [(256, 114)], [(128, 119)], [(2112, 115), (2048, 83), (64, 120)], [(32, 114)], [(16, 119)],
  [(1032, 115), (1024, 83), (8, 120)], [(4, 114)], [(2, 119)], [(513, 116), (512, 84), (1, 120)]]
def pairD (p : Nat × Nat) : PyData := .tuple [.int (p.1 : Int), .str (S [p.2])]
def tabD (t : List (Nat × Nat)) : PyData := .tuple (t.map pairD)
def tableD : PyData := .tuple (tables.map tabD)
def CSS : List (Str × PyData) := [("_filemode_table", tableD)]

theorem fs_IMODE (m : Nat) : FS FSS CSS (dR 3) 1 [.int (m : Int)] (.int ((m &&& 4095 : Nat) : Int)) := by
  refine fs_intro ["mode"] (fun prog w mg mb L a cd base A => ?_) (bind1 fun _ _ _ _ => by rfl)
  refine se_cons (s1_return (pe_andN (pe_name rfl) (pe_lit 4095)) (.inl rfl)) (fun τ h => by cases h.1) fun rf τ _ h => .inl h.1
theorem fs_IFMT (m : Nat) : FS FSS CSS (dR 4) 1 [.int (m : Int)] (.int ((m &&& 61440 : Nat) : Int)) := by
  refine fs_intro ["mode"] (fun prog w mg mb L a cd base A => ?_) (bind1 fun _ _ _ _ => by rfl)
  refine se_cons (s1_return (pe_andN (pe_name rfl) (pe_lit 61440)) (.inl rfl)) (fun τ h => by cases h.1) fun rf τ _ h => .inl h.1

def fits (i m b : Nat) : Bool := if i = 0 then (m &&& 61440) == b else (m &&& b) == b
def pick (i m : Nat) (t : List (Nat × Nat)) : Nat := match t.find? fun p => fits i m p.1 with
  | some p => p.2
  | none => if i = 0 then 63 else 45
def fmode (m : Nat) : List Nat := tables.zipIdx.map fun p => pick p.2 m p.1
end Pm

end
section
open PySem PySem.Calls PyProof.Rows
set_option Elab.async false
set_option linter.unusedVariables false
set_option maxRecDepth 100000
namespace Pm

theorem fmode_len (m : Nat) : (fmode m).length = 10 := by simp [fmode, tables]
abbrev chD (c : Nat) : PyData := .str (S [c])

set_option maxHeartbeats 1000000 in
theorem fs_filemode (m : Nat) : FS FSS CSS (dR 5) 2 [.int (m : Int)] (.str (S (fmode m))) := by
  refine fs_intro ["mode"] (fun prog w mg mb L a cd base A => ?_) (bind1 fun _ _ _ _ => by rfl)
  refine se_go (s1_own (pe_list pes_nil) (by simp) (.inl rfl)) fun τ hτ => ?_
  obtain ⟨p, rfl⟩ := hτ
  refine se_cons (P₁ := fun rf τ => rf = .next ∧ τ.lookup ("perm" : Str) = some (.own p ((fmode m).map chD))) (s1_for (Pb := fun _ => False) (fun i τ => τ.lookup ("mode" : Str) = some (.dat (.int (m : Int))) ∧ τ.lookup ("perm" : Str) = some (.own p (((fmode m).take i).map chD)))
    (pi_enum (pe_glob (d := tableD) (List.mem_singleton.mpr rfl) rfl) ff) ⟨rfl, rfl⟩ (tgt_pair (.inl rfl) (.inl rfl) enumD_pair) (fun H i d τ hd hI => ?_) (fun τ hI => se_nil ⟨rfl, ?_⟩) (fun τ h => h.elim)) (fun τ hτ => ?_) (fun rf τ hne h => absurd h.1 hne)
  · obtain ⟨t, ht, rfl⟩ := enumD_get hd
    have htab : ∃ tt, tables[i]? = some tt ∧ t = tabD tt := by
      rw [List.getElem?_map] at ht
      cases h : tables[i]? with
      | none => rw [h] at ht; cases ht
      | some tt => rw [h] at ht; cases ht; exact ⟨tt, rfl, rfl⟩
    obtain ⟨tt, htt, rfl⟩ := htab
    have hi10 : i < 10 := by have := (List.getElem?_eq_some_iff.mp htt).1; simpa [tables] using this
    have hfm : (fmode m)[i]? = some (pick i m tt) := by
      unfold fmode
      rw [List.getElem?_map, List.getElem?_zipIdx, htt]; simp
    have htake : ((fmode m).take (i + 1)).map chD = ((fmode m).take i).map chD ++ [chD (pick i m tt)] := by
      rw [List.take_add_one, hfm, List.map_append]; rfl
    refine SE.weak (P₁ := fun rf τ' => rf = .next ∧ τ'.lookup ("mode" : Str) = some (.dat (.int (m : Int))) ∧ τ'.lookup ("perm" : Str) = some (.own p (((fmode m).take i).map chD ++ [chD (pick i m tt)]))) ?_ (fun rf τ' h => by
      obtain ⟨rfl, h1, h2⟩ := h
      exact ⟨h1, by rw [htake]; exact h2⟩)
    refine se_one (s1_for (Pb := fun τ' => τ'.lookup ("mode" : Str) = some (.dat (.int (m : Int))) ∧ τ'.lookup ("perm" : Str) = some (.own p (((fmode m).take i).map chD ++ [chD (pick i m tt)])))
      (fun k τ' => τ'.lookup ("mode" : Str) = some (.dat (.int (m : Int))) ∧ τ'.lookup ("perm" : Str) = some (.own p (((fmode m).take i).map chD)) ∧ τ'.lookup ("index" : Str) = some (.dat (.int (i : Int))) ∧ ∀ q ∈ tt.take k, fits i m q.1 = false)
      (pi_tuple (pe_name (d := tabD tt) rfl) ff) ⟨hI.1, hI.2, rfl, by simp⟩ (tgt_pair (.inl rfl) (.inl rfl) fun d hd => ?_) (fun H₂ k d τ' hd hI' => ?_) (fun τ' hI' => ?_) fun τ' h => ⟨rfl, h⟩)
    · obtain ⟨q, _, rfl⟩ := List.mem_map.mp hd; exact ⟨_, _, rfl⟩
    · have hq : ∃ q, tt[k]? = some q ∧ d = pairD q := by
        rw [List.getElem?_map] at hd
        cases h : tt[k]? with
        | none => rw [h] at hd; cases hd
        | some q => rw [h] at hd; cases hd; exact ⟨q, rfl, rfl⟩
      obtain ⟨⟨b, c⟩, hq, rfl⟩ := hq
      obtain ⟨hm, hp, hix, hno⟩ := hI'
      have hnext : fits i m b = false → ∀ q ∈ tt.take (k + 1), fits i m q.1 = false := fun hf q hq' => by
        rw [List.take_add_one, hq] at hq'
        rcases List.mem_append.mp hq' with h | h
        · exact hno q h
        · simp at h; subst h; exact hf
      have hpick : fits i m b = true → pick i m tt = c := fun hf => by
        have : tt.find? (fun p => fits i m p.1) = some (b, c) := by
          rw [List.find?_eq_some_iff_getElem]
          obtain ⟨hlt, e⟩ := List.getElem?_eq_some_iff.mp hq
          refine ⟨hf, k, hlt, e, fun j' hj' => ?_⟩
          have := hno tt[j'] (List.mem_take_iff_getElem.mpr ⟨j', by omega, rfl⟩)
          simpa using this
        unfold pick; rw [this]
      generalize hσ : bindT _ (pairD (b, c)) τ' = σ₁
      have hm₁ : σ₁.lookup ("mode" : Str) = some (.dat (.int (m : Int))) := by rw [← hσ]; exact hm
      have hp₁ : σ₁.lookup ("perm" : Str) = some (.own p (((fmode m).take i).map chD)) := by rw [← hσ]; exact hp
      have hix₁ : σ₁.lookup ("index" : Str) = some (.dat (.int (i : Int))) := by rw [← hσ]; exact hix
      have hb₁ : σ₁.lookup ("bit" : Str) = some (.dat (.int (b : Int))) := by rw [← hσ]; rfl
      have hc₁ : σ₁.lookup ("char" : Str) = some (.dat (chD c)) := by rw [← hσ]; rfl
      have put : ∀ (nn : fits i m b = true), (∀ (τ₂ : Sto), τ₂ = (("perm" : Str), SV.own p (((fmode m).take i).map chD ++ [chD c])) :: σ₁ →
          τ₂.lookup ("mode" : Str) = some (.dat (.int (m : Int))) ∧ τ₂.lookup ("perm" : Str) = some (.own p (((fmode m).take i).map chD ++ [chD (pick i m tt)]))) := fun nn τ₂ h => by
        subst h; rw [hpick nn]; exact ⟨hm₁, rfl⟩
      refine se_one (s1_if (b := (i == 0)) (pb_c (pe_name hix₁) (pe_lit 0) c_eqN) (fun h0 => ?_) (fun h0 => ?_))
      · have h0' : i = 0 := by simpa using h0
        have hfit : fits i m b = ((m &&& 61440) == b) := by simp [fits, h0']
        refine se_one (s1_if (b := ((m &&& 61440) == b)) (pb_c (pe_call (fs_IFMT m) (Nat.le_refl _) (dR_mem 4 (by decide)) (pes_cons (pe_name hm₁) pes_nil) nm4 rfl) (pe_name hb₁) c_eqN) (fun hb => ?_) (fun hb => ?_))
        · refine se_go (s1_append hp₁ (pe_name hc₁) (.inr rfl) (by simp; omega)) fun τ₂ h => ?_
          exact se_one (S1.weak s1_break (by rintro rf τ₃ ⟨rfl, rfl⟩; exact put (hfit.trans hb) _ h))
        · exact se_nil ⟨hm₁, hp₁, hix₁, hnext (hfit.trans hb)⟩
      · have h0' : i ≠ 0 := by simpa using h0
        have hfit : fits i m b = ((m &&& b) == b) := by simp [fits, h0']
        refine se_one (s1_if (b := ((m &&& b) == b)) (pb_c (pe_andN (pe_name hm₁) (pe_name hb₁)) (pe_name hb₁) c_eqN) (fun hb => ?_) (fun hb => ?_))
        · refine se_go (s1_append hp₁ (pe_name hc₁) (.inr rfl) (by simp; omega)) fun τ₂ h => ?_
          exact se_one (S1.weak s1_break (by rintro rf τ₃ ⟨rfl, rfl⟩; exact put (hfit.trans hb) _ h))
        · exact se_nil ⟨hm₁, hp₁, hix₁, hnext (hfit.trans hb)⟩
    · obtain ⟨hm, hp, hix, hno⟩ := hI'
      rw [List.length_map, List.take_length] at hno
      have hpick : pick i m tt = if i = 0 then 63 else 45 := by
        have : tt.find? (fun p => fits i m p.1) = none := by
          rw [List.find?_eq_none]; intro q hq; simp [hno q hq]
        unfold pick; rw [this]
      rw [hpick]
      refine se_one (s1_if (b := (i == 0)) (pb_c (pe_name (d := .int (i : Int)) hix) (pe_lit 0) c_eqN) (fun h0 => ?_) (fun h0 => ?_))
      · have h0' : i = 0 := by simpa using h0
        rw [if_pos h0']
        refine se_go (s1_append hp (pe_strS [63]) (.inr rfl) (by simp; omega)) fun τ₂ h => ?_
        subst h; exact se_nil ⟨rfl, hm, rfl⟩
      · have h0' : i ≠ 0 := by simpa using h0
        rw [if_neg h0']
        refine se_go (s1_append hp (pe_strS [45]) (.inr rfl) (by simp; omega)) fun τ₂ h => ?_
        subst h; exact se_nil ⟨rfl, hm, rfl⟩
  · have := hI.2; rwa [enumD_len, List.take_of_length_le (by rw [fmode_len]; decide)] at this
  · refine se_cons (s1_return (pe_join0 (pe_strS []) (pe_own (ds := ((fmode m).map fun c => [c]).map fun l => .str (S l)) (by rw [List.map_map]; exact hτ.2)) ?_) (.inl rfl)) (fun τ h => by cases h.1) fun rf τ _ h => .inl (h.1.trans ?_)
    · rw [flat_sing, fmode_len]; decide
    · rw [flat_sing]
end Pm

end
section
open PySem PySem.Calls PyProof.Rows
set_option Elab.async false
set_option linter.unusedVariables false
set_option maxRecDepth 100000
namespace Pm

theorem at_getD {l : List Nat} {k : Nat} (h : k < l.length) : l[((k : Nat) : Int).toNat]? = some (l.getD k 0) := by
  rw [Int.toNat_natCast, List.getD_eq_getElem?_getD, List.getElem?_eq_getElem h]; rfl
def kinds : List Nat := [63, 112, 99, 63, 100, 63, 98, 63, 45, 63, 108, 63, 115, 63, 63, 63]
def xs (k : Nat) : List Nat := if k = 0 then [45, 120, 84, 116] else [45, 120, 83, 115]
def seg (m k : Nat) : List Nat := [[45, 114].getD (m / 8 ^ k % 8 / 4) 0, [45, 119].getD (m / 8 ^ k % 8 / 2 % 2) 0, (xs k).getD (m / 8 ^ k % 8 % 2 + m / 2 ^ (9 + k) % 2 * 2) 0]
def lrow (m : Nat) : List Nat := [kinds.getD (m / 4096) 0] ++ seg m 2 ++ seg m 1 ++ seg m 0
def segs (m i : Nat) : List Nat := [kinds.getD (m / 4096) 0] ++ (([2, 1, 0].take i).map (seg m)).flatten

theorem idx4 (x y : Nat) : x % 2 + y % 2 * 2 < 4 := by omega
theorem fs_row (m : Nat) (hm : m < 65536) : FS FSS CSS (dR 6) 2 [.int (m : Int)] (.str (S (lrow m))) := by
  refine fs_intro ["mode"] (fun prog w mg mb L a cd base A => ?_) (bind1 fun _ _ _ _ => by rfl)
  refine se_go (s1_assign (pe_idxStr (c := kinds.getD (m / 4096) 0) (pe_strS kinds) (pe_divN (pe_name (d := .int (m : Int)) rfl) (pe_lit 4096) (by decide) (by decide)) (Int.natCast_nonneg _) (by omega) (at_getD (Nat.div_lt_of_lt_mul (show m < 4096 * 16 from hm)))) (.inl fr) (.inl rfl)) fun τ h => ?_
  subst h
  refine se_cons (P₁ := fun rf τ => rf = .next ∧ τ.lookup ("row" : Str) = some (.dat (.str (S (lrow m))))) (s1_for (Pb := fun _ => False) (fun i τ => τ.lookup ("mode" : Str) = some (.dat (.int (m : Int))) ∧ τ.lookup ("row" : Str) = some (.dat (.str (S (segs m i)))))
    (pi_tuple (ds := [2, 1, 0].map fun k : Nat => .int (k : Int)) (pe_tuple (pes_cons (pe_lit 2) (pes_cons (pe_lit 1) (pes_cons (pe_lit 0) pes_nil)))) fr) ⟨rfl, rfl⟩ (tgt_name (.inl rfl)) (fun H i d τ hd hI => ?_) (fun τ hI => se_nil ⟨rfl, ?_⟩) (fun τ h => h.elim)) (fun τ hτ => ?_) (fun rf τ hne h => absurd h.1 hne)
  · have hk : ∃ k : Nat, [2, 1, 0][i]? = some k ∧ d = .int (k : Int) ∧ k < 3 := by
      rw [List.getElem?_map] at hd
      cases hk : ([2, 1, 0] : List Nat)[i]? with
      | none => rw [hk] at hd; cases hd
      | some k => rw [hk] at hd; cases hd; exact ⟨k, rfl, rfl, (by decide : ∀ k ∈ [2, 1, 0], k < 3) k (List.mem_of_getElem? hk)⟩
    obtain ⟨k, hk, rfl, hk3⟩ := hk
    generalize hσ : bindT _ (.int (k : Int)) τ = σ₁
    have hm₁ : σ₁.lookup ("mode" : Str) = some (.dat (.int (m : Int))) := by rw [← hσ]; exact hI.1
    have hr₁ : σ₁.lookup ("row" : Str) = some (.dat (.str (S (segs m i)))) := by rw [← hσ]; exact hI.2
    have hk₁ : σ₁.lookup ("k" : Str) = some (.dat (.int (k : Int))) := by rw [← hσ]; rfl
    have hlen : (segs m i).length ≤ 100 := by
      have hi : i < 3 := (List.getElem?_eq_some_iff.mp hk).1
      unfold segs
      have e : (([2, 1, 0].take i).map (seg m)).flatten.length = (([2, 1, 0] : List Nat).take i).length * 3 := by
        induction (([2, 1, 0] : List Nat).take i) with
        | nil => rfl
        | cons x r ih => rw [List.map_cons, List.flatten_cons, List.length_append, ih, List.length_cons, Nat.succ_mul, Nat.add_comm]; rfl
      rw [List.length_append, e]
      exact Nat.le_trans (Nat.add_le_add_left (Nat.mul_le_mul_right 3 (List.length_take_le' i _)) 1) (by decide)
    have hseg : segs m (i + 1) = segs m i ++ seg m k := by
      unfold segs
      rw [List.take_add_one, hk]
      simp
    have h8 : 8 ^ k < 1073741824 := (by decide : ∀ k, k < 3 → 8 ^ k < 1073741824) k hk3
    have h2 : 2 ^ (9 + k) < 1073741824 := (by decide : ∀ k, k < 3 → 2 ^ (9 + k) < 1073741824) k hk3
    have hpos8 : 8 ^ k ≠ 0 := Nat.ne_of_gt (Nat.pow_pos (by decide))
    have hpos2 : 2 ^ (9 + k) ≠ 0 := Nat.ne_of_gt (Nat.pow_pos (by decide))
    -- figure
    refine se_go (s1_assign (pe_modN (pe_divN (pe_name hm₁) (pe_powN (pe_lit 8) (pe_name hk₁) (by omega) (by decide)) hpos8 h8) (pe_lit 8) (by decide)) (.inl fr) (.inl rfl)) fun τ h => ?_
    subst h
    generalize hf : m / 8 ^ k % 8 = f
    have hf8 : f < 8 := by rw [← hf]; exact Nat.mod_lt _ (by decide)
    -- row + '-r'[..] + '-w'[..]
    refine se_go (s1_assign (pe_catS (pe_catS (pe_name hr₁) (pe_idxStr (c := [45, 114].getD (f / 4) 0) (pe_strS [45, 114]) (pe_divN (pe_name (d := .int (f : Int)) rfl) (pe_lit 4) (by decide) (by decide)) (Int.natCast_nonneg _) (by omega) (at_getD (Nat.div_lt_of_lt_mul (show f < 4 * 2 from hf8)))) (by simp; omega))
      (pe_idxStr (c := [45, 119].getD (f / 2 % 2) 0) (pe_strS [45, 119]) (pe_modN (pe_divN (pe_name (d := .int (f : Int)) rfl) (pe_lit 2) (by decide) (by decide)) (pe_lit 2) (by decide)) (Int.natCast_nonneg _) (by omega) (at_getD (Nat.mod_lt _ (by decide)))) (by simp; omega)) (.inl fr) (.inl rfl)) fun τ h => ?_
    subst h
    have hxs : ([[45, 120, 84, 116], [45, 120, 83, 115], [45, 120, 83, 115]].map fun l => PyData.str (S l))[((k : Nat) : Int).toNat]? = some (.str (S (xs k))) := by
      rw [Int.toNat_natCast, List.getElem?_map, (by decide : ∀ k, k < 3 → ([[45, 120, 84, 116], [45, 120, 83, 115], [45, 120, 83, 115]] : List (List Nat))[k]? = some (xs k)) k hk3]; rfl
    have hxl : (xs k).length = 4 := by unfold xs; split <;> rfl
    refine se_one (S1.weak (s1_assign (pe_catS (pe_name (d := .str (S ((segs m i ++ [[45, 114].getD (f / 4) 0]) ++ [[45, 119].getD (f / 2 % 2) 0]))) rfl)
      (pe_idxStr (c := (xs k).getD (f % 2 + m / 2 ^ (9 + k) % 2 * 2) 0) (pe_idxTuple (pe_tuple (ds := [[45, 120, 84, 116], [45, 120, 83, 115], [45, 120, 83, 115]].map fun l => PyData.str (S l)) (pes_cons (pe_strS [45, 120, 84, 116]) (pes_cons (pe_strS [45, 120, 83, 115]) (pes_cons (pe_strS [45, 120, 83, 115]) pes_nil)))) (pe_name (d := .int (k : Int)) (by exact hk₁)) (Int.natCast_nonneg _) (by omega) hxs)
        (pe_addN (pe_modN (pe_name (d := .int (f : Int)) rfl) (pe_lit 2) (by decide)) (pe_mulN (pe_modN (pe_divN (pe_name (d := .int (m : Int)) (by exact hm₁)) (pe_powN (pe_lit 2) (pe_addN (pe_lit 9) (pe_name (d := .int (k : Int)) (by exact hk₁))) (by omega) (by decide)) hpos2 h2) (pe_lit 2) (by decide)) (pe_lit 2) (by decide)))
        (Int.natCast_nonneg _) (by omega) (at_getD (by rw [hxl]; exact idx4 _ _))) (by simp; omega)) (.inl fr) (.inl rfl)) fun rf τ h => ?_)
    obtain ⟨rfl, rfl⟩ := h
    refine ⟨by exact hm₁, ?_⟩
    rw [lookup_cons_self, hseg]
    show some (SV.dat (.str (S _))) = some (SV.dat (.str (S _)))
    rw [seg, hf]
    simp [List.append_assoc]
  · have := hI.2
    rw [show segs m ([2, 1, 0].map fun k : Nat => PyData.int (k : Int)).length = lrow m from by simp [segs, lrow]] at this
    exact this
  · exact se_cons (s1_return (pe_name hτ.2) (.inr rfl)) (fun τ h => by cases h.1) fun rf τ _ h => .inl h.1
end Pm

end
section
open PySem PySem.Calls PyProof.Rows
set_option Elab.async false
set_option linter.unusedVariables false
set_option maxRecDepth 100000
namespace Pm

theorem sz2 {a b : PyData} : [a, b].length ≤ sizeLine := by show 2 ≤ sizeLine; decide
theorem gr0 : GenRec (dR 0) := ⟨fun _ _ _ _ => by rfl, by rfl, by rfl, by rfl, by rfl, fun _ _ _ => by rfl⟩
theorem gs0 : GS FSS CSS (dR 0) := by
  refine g_start rfl (fun L a cd => ⟨by rfl, by rfl, by rfl, by rfl, by rfl, by rfl, by rfl, by rfl, by rfl, by rfl⟩) ?_ ?_ ?_ ?_
  · intro prog w mg mb L a cd base Hl A' σ p c hp hc
    exact pe_tuple (pes_cons ((pe_name hp).scal rfl _) (pes_cons (pe_catS (pe_strS [92]) (pe_name hc) (Nat.le_of_ble_eq_true rfl)) pes_nil)) sz2
  · intro prog w mg mb L a cd base Hl A' σ p c hp hc
    exact pe_tuple (pes_cons ((pe_name hp).scal rfl _) (pes_cons ((pe_name hc).scal rfl _) pes_nil)) sz2
  · intro prog w mg mb L a cd base Hl A' σ p hp
    exact pe_tuple (pes_cons ((pe_name hp).scal rfl _) (pes_cons (pe_strS [92]) pes_nil)) sz2
  · intro prog w mg mb L a cd base Hl A' σ c hc
    exact (pb_c (pe_name hc) (pe_strS [92]) c_eqS).eq (by rw [Bool.eq_iff_iff]; simp)

/-- _strip_quoted_realnames: start, the open mark, the pieces so far -/
structure Stp3 where
  start : Nat
  op : Option Nat
  res : List (List Nat)
def stripStep (l : List Nat) (st : Stp3) (u : Nat × List Nat) : Stp3 :=
  if u.2 = [34] then match st.op with
    | none => ⟨st.start, some u.1, st.res⟩
    | some o => ⟨u.1 + 1, none, if st.start ≠ o then st.res ++ [(l.take o).drop st.start] else st.res⟩
  else st
def stripRun (l : List Nat) : Stp3 := (units l).foldl (stripStep l) ⟨0, none, []⟩
def stripEnd (l : List Nat) (st : Stp3) : List (List Nat) := if st.start < l.length then st.res ++ [l.drop st.start] else st.res
def strip (l : List Nat) : List Nat := if 34 ∈ l then (stripEnd l (stripRun l)).flatten else l
def opD : Option Nat → PyData
  | none => .none
  | some o => .int (o : Int)
abbrev strD (l : List Nat) : PyData := .str (S l)

theorem escs_len : ∀ (l : List Nat) (i : Nat) (e : Bool), (escs i e l).length ≤ l.length + 1
  | [], i, e => by cases e <;> simp [escs]
  | c :: r, i, e => by
    unfold escs
    split
    · have := escs_len r (i + 1) false; simp; omega
    · split
      · have := escs_len r (i + 1) true; simp; omega
      · have := escs_len r (i + 1) false; simp; omega
theorem stripStep_res {l : List Nat} {st : Stp3} {u : Nat × List Nat} : (stripStep l st u).res.length ≤ st.res.length + 1 := by
  unfold stripStep
  split
  · split
    · simp
    · split <;> simp
  · simp
theorem foldl_take_succ {α β : Type} (f : β → α → β) (b : β) {l : List α} {i : Nat} {x : α} (h : l[i]? = some x) : (l.take (i + 1)).foldl f b = f ((l.take i).foldl f b) x := by
  rw [List.take_add_one, h, List.foldl_append]; rfl
theorem fold_res {l : List Nat} : ∀ (us : List (Nat × List Nat)) (st : Stp3), (us.foldl (stripStep l) st).res.length ≤ st.res.length + us.length
  | [], st => by simp
  | u :: us, st => by
    have := fold_res (l := l) us (stripStep l st u); have := stripStep_res (l := l) (st := st) (u := u); simp; omega

set_option maxHeartbeats 1000000 in
theorem fs_strip (l : List Nat) (hl : l.length ≤ 900) (hz : (strip l).length ≤ 1000000) : FS FSS CSS (dR 1) 3 [strD l] (strD (strip l)) := by
  refine fs_intro ["addr"] (fun prog w mg mb L a cd base A => ?_) (bind1 fun _ _ _ _ => by rfl)
  by_cases h34 : 34 ∈ l
  case neg =>
    refine se_cons (P₁ := fun rf τ => rf = .ret (strD (strip l))) (s1_if (b := true) ((pb_c (pe_strS [34]) (pe_name (d := strD l) rfl) c_notin_str).eq (by rw [contains_S]; simp [h34])) (fun _ => ?_) (fun h => by cases h)) (fun τ h => by cases h) (fun rf τ hne h => .inl h)
    exact se_one (S1.weak (s1_return (pe_name (d := strD l) rfl) (.inr rfl)) fun rf τ h => by rw [h.1]; unfold strip; rw [if_neg h34])
  case pos =>
  refine se_cons (P₁ := fun rf τ => rf = .next ∧ τ = sto0 ["addr"] [strD l]) (s1_if (b := false) ((pb_c (pe_strS [34]) (pe_name (d := strD l) rfl) c_notin_str).eq (by rw [contains_S]; simp [h34])) (fun h => by cases h) (fun _ => se_nil ⟨rfl, rfl⟩)) (fun τ h => ?_) (fun rf τ hne h => absurd h.1 hne)
  obtain ⟨_, rfl⟩ := h
  refine se_go (s1_assign (pe_lit 0) (.inl fr) (.inl rfl)) fun τ h => ?_
  subst h
  refine se_go (s1_assign pe_none (.inl fr) (.inl rfl)) fun τ h => ?_
  subst h
  refine se_go (s1_own (pe_list pes_nil) (by simp) (.inl rfl)) fun τ h => ?_
  obtain ⟨p, rfl⟩ := h
  have hun : (units l).length ≤ 901 := by
    have h := escs_len l 0 false
    show (escs 0 false l).length ≤ 901
    omega
  refine se_cons (P₁ := fun rf τ => rf = .next ∧ τ.lookup ("addr" : Str) = some (.dat (strD l)) ∧ τ.lookup ("start" : Str) = some (.dat (.int ((stripRun l).start : Int))) ∧ τ.lookup ("result" : Str) = some (.own p ((stripRun l).res.map strD)))
    (s1_for (Pb := fun _ => False) (fun i τ => τ.lookup ("addr" : Str) = some (.dat (strD l)) ∧ τ.lookup ("start" : Str) = some (.dat (.int ((((units l).take i).foldl (stripStep l) ⟨0, none, []⟩).start : Int))) ∧
        τ.lookup ("open_pos" : Str) = some (.dat (opD (((units l).take i).foldl (stripStep l) ⟨0, none, []⟩).op)) ∧ τ.lookup ("result" : Str) = some (.own p ((((units l).take i).foldl (stripStep l) ⟨0, none, []⟩).res.map strD)))
      (pi_gen gs0 gr0 (show 1 ≤ 2 by decide) (dR_mem 0 (by decide)) (pe_name (d := strD l) rfl) nm0 rfl) ⟨rfl, rfl, rfl, rfl⟩ (tgt_pair (.inl rfl) (.inl rfl) fun d hd => ?_) (fun H i d τ hd hI => ?_) (fun τ hI => se_nil ⟨rfl, ?_⟩) (fun τ h => h.elim)) (fun τ hτ => ?_) (fun rf τ hne h => absurd h.1 hne)
  · obtain ⟨u, _, rfl⟩ := List.mem_map.mp hd; exact ⟨_, _, rfl⟩
  · have hu : ∃ u, (units l)[i]? = some u ∧ d = unitD u := by
      rw [List.getElem?_map] at hd
      cases h : (units l)[i]? with
      | none => rw [h] at hd; cases hd
      | some q => rw [h] at hd; cases hd; exact ⟨q, rfl, rfl⟩
    obtain ⟨⟨q, ch⟩, hu, rfl⟩ := hu
    have hlt : i < (units l).length := (List.getElem?_eq_some_iff.mp hu).1
    rw [foldl_take_succ _ _ hu]
    have hres : (((units l).take i).foldl (stripStep l) ⟨0, none, []⟩).res.length < 1000 := by
      have := fold_res (l := l) ((units l).take i) ⟨0, none, []⟩
      simp at this; omega
    generalize ((units l).take i).foldl (stripStep l) ⟨0, none, []⟩ = st at *
    generalize hσ : bindT _ (unitD (q, ch)) τ = σ₁
    have ha₁ : σ₁.lookup ("addr" : Str) = some (.dat (strD l)) := by rw [← hσ]; exact hI.1
    have hs₁ : σ₁.lookup ("start" : Str) = some (.dat (.int (st.start : Int))) := by rw [← hσ]; exact hI.2.1
    have ho₁ : σ₁.lookup ("open_pos" : Str) = some (.dat (opD st.op)) := by rw [← hσ]; exact hI.2.2.1
    have hr₁ : σ₁.lookup ("result" : Str) = some (.own p (st.res.map strD)) := by rw [← hσ]; exact hI.2.2.2
    have hp₁ : σ₁.lookup ("pos" : Str) = some (.dat (.int (q : Int))) := by rw [← hσ]; rfl
    have hc₁ : σ₁.lookup ("ch" : Str) = some (.dat (strD ch)) := by rw [← hσ]; rfl
    refine se_one (s1_if (b := (ch == [34])) (pb_c (pe_name hc₁) (pe_strS [34]) c_eqS) (fun hq => ?_) (fun hq => ?_))
    · have hq' : ch = [34] := by simpa using hq
      obtain ⟨start, op, res⟩ := st
      cases op with
      | none =>
        refine se_one (s1_if (b := true) (pb_c (pe_name (d := .none) ho₁) pe_none c_is_none_none) (fun _ => ?_) (fun h => by cases h))
        refine se_one (S1.weak (s1_assign (pe_name hp₁) (.inl ff) (.inl rfl)) fun rf τ h => ?_)
        obtain ⟨rfl, rfl⟩ := h
        have e : stripStep l ⟨start, none, res⟩ (q, ch) = ⟨start, some q, res⟩ := by simp [stripStep, hq']
        rw [e]
        exact ⟨by exact ha₁, by exact hs₁, rfl, by exact hr₁⟩
      | some o =>
        refine se_one (s1_if (b := false) (pb_c (pe_name (d := .int (o : Int)) ho₁) pe_none c_is_int_none) (fun h => by cases h) (fun _ => ?_))
        have e : stripStep l ⟨start, some o, res⟩ (q, ch) = ⟨q + 1, none, if start ≠ o then res ++ [(l.take o).drop start] else res⟩ := by simp [stripStep, hq']
        rw [e]
        refine se_cons (P₁ := fun rf τ => rf = .next ∧ τ.lookup ("addr" : Str) = some (.dat (strD l)) ∧ τ.lookup ("pos" : Str) = some (.dat (.int (q : Int))) ∧ τ.lookup ("result" : Str) = some (.own p ((if start ≠ o then res ++ [(l.take o).drop start] else res).map strD)))
          (s1_if (b := (start != o)) (pb_c (pe_name hs₁) (pe_name (d := .int (o : Int)) ho₁) c_neN) (fun hne => ?_) (fun hne => ?_)) (fun τ hτ => ?_) (fun rf τ hne h => absurd h.1 hne)
        · have hne' : start ≠ o := by simpa using hne
          refine se_one (S1.weak (s1_append hr₁ ((pe_sliceStr (pe_name ha₁) (psl_some (pe_name hs₁)) (psl_some (pe_name (d := .int (o : Int)) ho₁)) (by rw [S_len]; omega)).eq (d' := strD ((l.take o).drop start)) (by rw [slice_S])) (.inr rfl) (by simpa using hres)) fun rf τ h => ?_)
          obtain ⟨rfl, rfl⟩ := h
          rw [if_pos hne']
          exact ⟨rfl, by exact ha₁, by exact hp₁, by rw [lookup_cons_self]; simp⟩
        · have hne' : ¬ start ≠ o := by simpa using hne
          rw [if_neg hne']
          exact se_nil ⟨rfl, ha₁, hp₁, hr₁⟩
        · obtain ⟨_, h1, h2, h3⟩ := hτ
          refine se_go (s1_assign (pe_addN (pe_name h2) (pe_lit 1)) (.inl fr) (.inl rfl)) fun τ h => ?_
          subst h
          refine se_one (S1.weak (s1_assign pe_none (.inl fr) (.inl rfl)) fun rf τ h => ?_)
          obtain ⟨rfl, rfl⟩ := h
          exact ⟨by exact h1, rfl, rfl, by exact h3⟩
    · have hq' : ¬ ch = [34] := by simpa using hq
      have e : stripStep l st (q, ch) = st := by simp [stripStep, hq']
      rw [e]
      exact se_nil ⟨ha₁, hs₁, ho₁, hr₁⟩
  · rw [List.length_map, List.take_length] at hI
    exact ⟨hI.1, hI.2.1, hI.2.2.2⟩
  · obtain ⟨_, h1, h2, h3⟩ := hτ
    have hrl : (stripRun l).res.length < 1000 := by
      have := fold_res (l := l) (units l) ⟨0, none, []⟩
      unfold stripRun; simp at this ⊢; omega
    refine se_cons (P₁ := fun rf τ => rf = .next ∧ τ.lookup ("result" : Str) = some (.own p ((stripEnd l (stripRun l)).map strD)))
      (s1_if (b := decide ((stripRun l).start < l.length)) (pb_c (pe_name h2) ((pe_lenStr (pe_name h1) (by rw [S_len]; omega)).eq (d' := .int (l.length : Int)) (by rw [S_len])) c_ltN) (fun hq => ?_) (fun hq => ?_)) (fun τ hτ => ?_) (fun rf τ hne h => absurd h.1 hne)
    · have hq' : (stripRun l).start < l.length := by simpa using hq
      refine se_one (S1.weak (s1_append h3 ((pe_sliceStr (pe_name h1) (psl_some (pe_name h2)) psl_none (by rw [S_len]; omega)).eq (d' := strD (l.drop (stripRun l).start)) (by rw [slice_S_from])) (.inr rfl) (by simpa using hrl)) fun rf τ h => ?_)
      obtain ⟨rfl, rfl⟩ := h
      unfold stripEnd
      rw [if_pos hq']
      exact ⟨rfl, by rw [lookup_cons_self]; simp⟩
    · have hq' : ¬ (stripRun l).start < l.length := by simpa using hq
      unfold stripEnd
      rw [if_neg hq']
      exact se_nil ⟨rfl, h3⟩
    · have hst : strip l = (stripEnd l (stripRun l)).flatten := by unfold strip; rw [if_pos h34]
      refine se_cons (s1_return (pe_join0 (pe_strS []) (pe_own hτ.2) (by rw [← hst]; exact hz)) (.inl rfl)) (fun τ h => by cases h.1) fun rf τ _ h => .inl (h.1.trans (by rw [hst]))
end Pm

end
section
open PySem PySem.Calls PyProof.Rows
set_option Elab.async false
set_option linter.unusedVariables false
set_option maxRecDepth 100000
namespace Pm

def chk : Nat → List (Nat × List Nat) → Bool
  | n, [] => n == 0
  | n, u :: us => if u.2 = [40] then chk (n + 1) us else if u.2 = [41] then (match n with | 0 => false | n + 1 => chk n us) else chk n us
def check (l : List Nat) : Bool := chk 0 (units (strip l))

theorem unit_at {us : List (Nat × List Nat)} {i : Nat} {d : PyData} (hd : (us.map unitD)[i]? = some d) : ∃ u, us[i]? = some u ∧ d = unitD u := by
  rw [List.getElem?_map] at hd
  cases h : us[i]? with
  | none => rw [h] at hd; cases hd
  | some q => rw [h] at hd; cases hd; exact ⟨q, rfl, rfl⟩
theorem units_pair {us : List (Nat × List Nat)} : ∀ d ∈ us.map unitD, ∃ u v, d = .tuple [u, v] := fun d hd => by obtain ⟨u, _, rfl⟩ := List.mem_map.mp hd; exact ⟨_, _, rfl⟩

theorem fs_check (l : List Nat) (hl : l.length ≤ 900) (hz : (strip l).length ≤ 1000000) : FS FSS CSS (dR 2) 4 [strD l] (.bool (check l)) := by
  refine fs_intro ["addr"] (fun prog w mg mb L a cd base A => ?_) (bind1 fun _ _ _ _ => by rfl)
  refine se_go (s1_assign (pe_call (fs_strip l hl (by omega)) (Nat.le_refl _) (dR_mem 1 (by decide)) (pes_cons (pe_name (d := strD l) rfl) pes_nil) nm1 rfl) (.inl fr) (.inl rfl)) fun τ h => ?_
  subst h
  refine se_go (s1_assign (pe_lit 0) (.inl fr) (.inl rfl)) fun τ h => ?_
  subst h
  refine se_cons (P₁ := fun rf τ => rf = .ret (.bool (check l)) ∨ (rf = .next ∧ ∃ n : Nat, τ.lookup ("opens" : Str) = some (.dat (.int (n : Int))) ∧ (n == 0) = check l))
    (s1_for (Pb := fun _ => False) (fun i τ => ∃ n : Nat, τ.lookup ("opens" : Str) = some (.dat (.int (n : Int))) ∧ chk n ((units (strip l)).drop i) = check l)
      (pi_gen gs0 gr0 (show 1 ≤ 3 by decide) (dR_mem 0 (by decide)) (pe_name (d := strD (strip l)) rfl) nm0 rfl) ⟨0, rfl, rfl⟩ (tgt_pair (.inl rfl) (.inl rfl) units_pair) (fun H i d τ hd hI => ?_) (fun τ hI => se_nil (.inr ⟨rfl, ?_⟩)) (fun τ h => h.elim)) (fun τ hτ => ?_) (fun rf τ hne h => ?_)
  · obtain ⟨⟨q, ch⟩, hu, rfl⟩ := unit_at hd
    obtain ⟨n, hn, hI⟩ := hI
    have hdr : (units (strip l)).drop i = (q, ch) :: (units (strip l)).drop (i + 1) := by
      obtain ⟨hlt, e⟩ := List.getElem?_eq_some_iff.mp hu
      rw [List.drop_eq_getElem_cons hlt, e]
    rw [hdr] at hI
    generalize hσ : bindT _ (unitD (q, ch)) τ = σ₁
    have hn₁ : σ₁.lookup ("opens" : Str) = some (.dat (.int (n : Int))) := by rw [← hσ]; exact hn
    have hc₁ : σ₁.lookup ("ch" : Str) = some (.dat (strD ch)) := by rw [← hσ]; rfl
    refine se_one (s1_if (b := (ch == [40])) (pb_c (pe_name hc₁) (pe_strS [40]) c_eqS) (fun hq => ?_) (fun hq => ?_))
    · have hq' : ch = [40] := by simpa using hq
      refine se_one (S1.weak (s1_augAdd hn₁ (pe_lit 1) (.inl rfl)) fun rf τ h => ?_)
      obtain ⟨rfl, rfl⟩ := h
      refine ⟨n + 1, rfl, ?_⟩
      rw [← hI]; simp [chk, hq']
    · have hq' : ¬ ch = [40] := by simpa using hq
      refine se_one (s1_if (b := (ch == [41])) (pb_c (pe_name hc₁) (pe_strS [41]) c_eqS) (fun hp => ?_) (fun hp => ?_))
      · have hp' : ch = [41] := by simpa using hp
        refine se_go (s1_augSub hn₁ (pe_lit 1) (.inl rfl)) fun τ h => ?_
        subst h
        refine se_one (s1_if (b := decide ((n : Int) - ((1 : Nat) : Int) < 0)) (pb_c (pe_name (d := .int ((n : Int) - ((1 : Nat) : Int))) rfl) (pe_int (i := 0)) c_lt_int) (fun hb => ?_) (fun hb => ?_))
        · have hb' : (n : Int) - ((1 : Nat) : Int) < 0 := by simpa using hb
          have h0 : n = 0 := by omega
          refine se_one (S1.weak (s1_return pe_bool (.inl rfl)) fun rf τ h => ?_)
          obtain ⟨rfl, rfl⟩ := h
          refine .inl ?_
          rw [← hI, h0]; simp [chk, hp']
        · have hb' : ¬ (n : Int) - ((1 : Nat) : Int) < 0 := by simpa using hb
          obtain ⟨m, rfl⟩ : ∃ m, n = m + 1 := ⟨n - 1, by omega⟩
          refine se_nil ⟨m, ?_, ?_⟩
          · rw [lookup_cons_self]
            have e : (((m + 1 : Nat) : Int) - ((1 : Nat) : Int)) = (m : Int) := by omega
            rw [e]
          · rw [← hI]; simp [chk, hp']
      · have hp' : ¬ ch = [41] := by simpa using hp
        refine se_nil ⟨n, hn₁, ?_⟩
        rw [← hI]; simp [chk, hq', hp']
  · obtain ⟨n, hn, hI⟩ := hI
    refine ⟨n, hn, ?_⟩
    rw [List.length_map, List.drop_length] at hI
    exact hI
  · rcases hτ with h | ⟨_, n, hn, hI⟩
    · cases h
    · exact se_cons (s1_return ((pe_c (pe_name hn) (pe_lit 0) c_eqN).eq (by rw [hI])) (.inl rfl)) (fun τ h => by cases h.1) fun rf τ _ h => .inl h.1
  · rcases h with h | ⟨h, _⟩
    · exact .inl h
    · exact absurd h hne
end Pm

end
section
open PySem PySem.Calls PyProof.Rows
set_option Elab.async false
set_option linter.unusedVariables false
namespace Pm
section
variable {j : J} {σ τ : Sto}
/-- a block's list of scalars stored at once into a local: the call's own from here on -/
theorem s1_ownComp {elt tgt iter : PySem.Expr} {ifs : List PySem.Expr} {scope : Scope} {pos spos xp : Pos} {x : Str} {ds : List PyData} (g : PyData → Option PyData) (hi : PI j σ iter tgt ds) (B : BlockOk j.env scope)
    (hz : ds.length < 1000) (ht : ∀ C, ∀ d ∈ ds, TgtOk (compEnvC scope (closeL j.env scope.names []) C j.env) tgt d)
    (hitem : ∀ (C : Addr) (H : Addr → Prop) (d : PyData), d ∈ ds → CompItem (j.comp scope C H) (bindT tgt d (visC scope.names σ)) ifs elt (g d)) (hx : j.env.kindOf x = some .local) (hsc : ∀ d ∈ ds.filterMap g, scal d = true)
    (hsw : swapsWith (.ListComp elt [⟨tgt, iter, ifs, 0⟩] scope pos) (some (.Name x xp)) spos.line j.env = pure true := by rfl)
    (hs : ∀ x, foldedSetIterable iter j.env x = pure x := by intro _; rfl) : S1 j σ (.Assign [.Name x xp] (.ListComp elt [⟨tgt, iter, ifs, 0⟩] scope pos) spos) fun rf τ => rf = .next ∧ ∃ a, τ = (x, .own a (ds.filterMap g)) :: σ := by
  intro ok s F Q E hQ
  rw [exec_Assign_Name_used _ _ _ _ hsw]
  refine wpAny_bind (wpAny_standAt (wpAny_bind ?_))
  show wpAny _ j.A (do let _ ← comprehension (.ListComp elt [⟨tgt, iter, ifs, 0⟩] scope pos) scope j.env _ (newList []) false (eval iter j.env) (some (assign (.Name x xp) j.env))) _ _ s
  refine wpAny_bind (wpAny_mono (wpAny_comprehension_free (use := some (assign (.Name x xp) j.env)) (Q := fun _ s' => Q .next s') rfl hs (closureFor_is B.cells) B.kind (fun x hx hl => by have := List.all_eq_true.mp B.loc x hx; rw [hl] at this; simpa using this)
    (hi ok s F _ _ fun it s₁ s₂ W G St x₁ x₂ I st0 hG hs₀ => comp_core g ok B F x₁ x₂ I st0 hG hs₀ hz ht hitem (RR := fun acc C => compPost (model j.prog j.w) j.A E (some (assign (.Name x xp) j.env)) (fun _ s' => Q .next s') acc C) fun D C s' m xe hC hn hv => ?_))
    (fun _ s' hq => wpAny_pure (wpAny_pure hq)) fun _ _ e => e)
  show wpAny _ j.A (assign (.Name x xp) j.env (.ref D)) _ _ _
  obtain ⟨D', vs, e, hD, hl, hr⟩ := RV.list_iff.mp hv
  cases e
  have hDs : ¬ Live s.heap D := fun l => hD (.inl l)
  have hDC : D ≠ C := fun q => hD (.inr q)
  have hCb : ¬ Live j.base C := fun ⟨o, e⟩ => hC ⟨o, F.keep C o e⟩
  have hDb : ¬ Live j.base D := fun ⟨o, e⟩ => hDs ⟨o, F.keep D o e⟩
  have F' : FmZ (fun b => avC j.cx σ b ∨ b = C ∨ b = D) j.cx σ s' := (F.turn (Z' := fun b => avC j.cx σ b ∨ b = C ∨ b = D) (fun b q => q.imp id fun e => by
    rcases e with e | e
    · subst e; exact ⟨hC, hCb⟩
    · subst e; exact ⟨hDs, hDb⟩) fun b q => .inl q).ext xe
  refine wpAny_assign_Name (storeZ ok F' (.inl hx) (sv := .own D (ds.filterMap g)) ⟨rfl, .inr (.inr rfl), vs, hl, hr.scal hsc⟩ (fun a dd e y dd' hy => by cases e; exact hDs (F.mutLive (.inr (.inr ⟨y, dd', hy⟩)))) fun s'' F'' C'' _ => ⟨m, hn.at fun o e => C''.keep C o (fun q => hC (F.mutLive q)) e, fun h' hs' => ?_⟩)
  have c : ChgG (fun b => b = C) (fun _ => False) s'' { s'' with heap := h' } := ⟨fun b o hb e => (hs'.2 b hb).trans e, Nat.le_refl _, fun _ _ _ => rfl, id, rfl⟩
  have hmut : ∀ b, mutC j.cx ((x, .own D (ds.filterMap g)) :: σ) b → mutC j.cx σ b ∨ b = D := fun b q => by
    rcases q with q | q | ⟨y, dd, q⟩
    · exact .inl (.inl q)
    · exact .inl (.inr (.inl q))
    · rcases lookup_put q with ⟨_, h1⟩ | ⟨_, h1⟩
      · cases h1; exact .inr rfl
      · exact .inl (.inr (.inr ⟨y, dd, h1⟩))
  refine hQ .next .next _ _ ⟨rfl, D, rfl⟩ trivial ⟨(F''.chg c (fun b q => .inr (.inl q)) (fun b q w => (hmut b w).elim (fun w => hC (q ▸ F.mutLive w)) fun w => hDC (w.symm.trans q)) (fun b q y e => hC (q ▸ let ⟨ov, o, ho, _⟩ := F.cells y b e; ⟨o, ho⟩)) fun b h q => absurd (F.hole b h) (q ▸ hC)).turn (fun b q => .inl (q.elim (fun q => (hmut b q).elim (fun q => .inl (.inl q)) fun q => .inr (.inr q)) fun q => .inl (.inr q))) fun b q => q, ?_, fun b q => (hmut b q).imp id fun (e : b = D) => e ▸ hDs⟩
  exact (Chg.extThen xe C'').next c fun b q => .inr (q ▸ hC)
end
end Pm

end
section
open PySem PySem.Calls PyProof.Rows
set_option Elab.async false
set_option linter.unusedVariables false
set_option maxRecDepth 100000
namespace Pm

def natD (n : Nat) : PyData := .int (n : Int)
/-- the bits that a row tells -/
def isIn (s : List Nat) (c : Nat) : Nat := if c ∈ s then 1 else 0
def lbits (m : Nat) : List Nat := (List.range 9).map (fun k => isIn [114, 119, 120, 115, 116] ((fmode m).getD (9 - k) 0)) ++ (List.range 3).map (fun k => isIn [116, 84, 115, 83] ((fmode m).getD (9 - 3 * k) 0)) ++
  (List.range 4).map (fun k => (m &&& 61440) / 2 ^ (12 + k) % 2)

theorem rng_natD (a n : Nat) : rng (a : Int) 1 n = (List.range n).map fun k => natD (a + k) := by
  unfold rng
  apply List.map_congr_left
  intro k _
  simp [natD]
def natOf : PyData → Nat
  | .int i => i.toNat
  | _ => 0
theorem natOf_D (n : Nat) : natOf (natD n) = n := by simp [natOf, natD]
theorem rng_mem {a n : Nat} {d : PyData} (h : d ∈ rng (a : Int) 1 n) : ∃ k, k < n ∧ d = natD (a + k) := by
  rw [rng_natD] at h
  obtain ⟨k, hk, rfl⟩ := List.mem_map.mp h
  exact ⟨k, List.mem_range.mp hk, rfl⟩
theorem rng_map (f : Nat → PyData) (a n : Nat) : (rng (a : Int) 1 n).filterMap (fun d => some (f (natOf d))) = (List.range n).map fun k => f (a + k) := by
  rw [rng_natD, List.filterMap_map]
  induction (List.range n) with
  | nil => rfl
  | cons x r ih => simp only [List.filterMap_cons, Function.comp, natOf_D, List.map_cons, ih]


section
variable {j : J} {σ : Sto} {md md₁ md₂ : Md} {e e₁ e₂ : PySem.Expr} {pos pos' p1 p2 p3 : Pos} {k1 k2 k3 : Nat}
theorem pe_isin {c : Nat} (s : List Nat) {x : Str} (h : PE j σ md e (.str (S [c]))) (hx : x = S s := by decide +kernel) (hm : behindInMarks .In (.Constant (.str x) k1 p1) = false := by with_unfolding_all rfl) :
    PE j σ .fresh (.IfExp (.Compare e [.In] [.Constant (.str x) k1 p1] p2) (.Constant (.int 1) k2 p3) (.Constant (.int 0) k3 pos) pos') (natD (isIn s c)) := by
  refine pe_ifexp (b := decide (c ∈ s)) ((pb_c h (pe_strS s hx) c_in_str hm).eq (by rw [contains_S])) (fun hb => ?_) (fun hb => ?_)
  · have : c ∈ s := by simpa using hb
    exact (pe_lit 1).eq (by simp [isIn, this, natD])
  · have : ¬ c ∈ s := by simpa using hb
    exact (pe_lit 0).eq (by simp [isIn, this, natD])
end

set_option maxHeartbeats 1000000 in
theorem fs_bits (m : Nat) : FS FSS CSS (dR 7) 3 [natD m] (.list ((lbits m).map natD)) := by
  refine fs_intro ["mode"] (fun prog w mg mb L a cd base A => ?_) (bind1 fun _ _ _ _ => by rfl)
  refine se_go (s1_assign (pe_call (fs_filemode m) (Nat.le_refl _) (dR_mem 5 (by decide)) (pes_cons (pe_name (d := natD m) rfl) pes_nil) nm5 rfl) (.inl fr) (.inr ⟨rfl, rfl, _, rfl⟩)) fun τ h => ?_
  subst h
  refine se_go (s1_ownComp (fun d => some (natD (isIn [114, 119, 120, 115, 116] ((fmode m).getD (9 - natOf d) 0)))) (pi_range1 (n := 9) (pe_lit 9)) ⟨rfl, rfl, rfl, rfl, rfl, rfl⟩ (by rw [rng_len]; decide) (fun C => tgt_name (.inl rfl)) (fun C H d hd => ?_) rfl (by
    intro d hd; obtain ⟨x, _, hx⟩ := List.mem_filterMap.mp hd; cases hx; rfl)) fun τ h => ?_
  · obtain ⟨k, hk, rfl⟩ := rng_mem (a := 0) hd
    rw [natOf_D, Nat.zero_add]
    exact ⟨_, rfl, pe_isin [114, 119, 120, 115, 116] (pe_idxStr (pe_name (d := strD (fmode m)) rfl) (pe_subN (pe_lit 9) (pe_name (d := natD k) rfl) (by omega)) (Int.natCast_nonneg _) (by omega) (at_getD (by rw [fmode_len]; omega)))⟩
  obtain ⟨p, rfl⟩ := h
  rw [show rng 0 1 9 = rng ((0 : Nat) : Int) 1 9 from rfl, rng_map (fun k => natD (isIn [114, 119, 120, 115, 116] ((fmode m).getD (9 - k) 0)))]
  refine se_go (s1_extend rfl (pe_comp (fun d => some (natD (isIn [116, 84, 115, 83] ((fmode m).getD (9 - 3 * natOf d) 0)))) (pi_range1 (n := 3) (pe_lit 3)) ⟨rfl, rfl, rfl, rfl, rfl, rfl⟩ (by rw [rng_len]; decide) (fun C => tgt_name (.inl rfl)) (fun C H d hd => ?_)) (by
    intro d hd; obtain ⟨x, _, hx⟩ := List.mem_filterMap.mp hd; cases hx; rfl) ?_) fun τ h => ?_
  · obtain ⟨k, hk, rfl⟩ := rng_mem (a := 0) hd
    rw [natOf_D, Nat.zero_add]
    exact ⟨_, rfl, pe_isin [116, 84, 115, 83] (pe_idxStr (pe_name (d := strD (fmode m)) rfl) (pe_subN (pe_lit 9) (pe_mulN (pe_lit 3) (pe_name (d := natD k) rfl) (by omega)) (by omega)) (Int.natCast_nonneg _) (by omega) (at_getD (by rw [fmode_len]; omega)))⟩
  · rw [show rng 0 1 3 = rng ((0 : Nat) : Int) 1 3 from rfl, rng_map (fun k => natD (isIn [116, 84, 115, 83] ((fmode m).getD (9 - 3 * k) 0)))]; simp
  subst h
  rw [show rng 0 1 3 = rng ((0 : Nat) : Int) 1 3 from rfl, rng_map (fun k => natD (isIn [116, 84, 115, 83] ((fmode m).getD (9 - 3 * k) 0)))]
  refine se_go (s1_extend rfl (pe_comp (fun d => some (natD ((m &&& 61440) / 2 ^ natOf d % 2))) (pi_range2 (n := 4) (pe_lit 12) (pe_lit 16) (by decide)) ⟨rfl, rfl, rfl, rfl, rfl, rfl⟩ (by rw [rng_len]; decide) (fun C => tgt_name (.inl rfl)) (fun C H d hd => ?_)) (by
    intro d hd; obtain ⟨x, _, hx⟩ := List.mem_filterMap.mp hd; cases hx; rfl) ?_) fun τ h => ?_
  · obtain ⟨k, hk, rfl⟩ := rng_mem (a := 12) hd
    rw [natOf_D]
    have h2 : 2 ^ (12 + k) < 1073741824 := by
      match k, hk with
      | 0, _ => decide
      | 1, _ => decide
      | 2, _ => decide
      | 3, _ => decide
    have hpos2 : 2 ^ (12 + k) ≠ 0 := by have := Nat.pow_pos (n := 12 + k) (show 0 < 2 by decide); omega
    exact ⟨_, rfl, pe_modN (pe_divN (pe_call (fs_IFMT m) (show 1 ≤ 2 by decide) (dR_mem 4 (by decide)) (pes_cons (pe_name (d := natD m) rfl) pes_nil) nm4 rfl) (pe_powN (pe_lit 2) (pe_name (d := natD (12 + k)) rfl) (by omega) (by decide)) hpos2 h2) (pe_lit 2) (by decide)⟩
  · rw [rng_map (fun k => natD ((m &&& 61440) / 2 ^ k % 2))]; simp
  subst h
  rw [rng_map (fun k => natD ((m &&& 61440) / 2 ^ k % 2))]
  have e : (List.range 9).map (fun k => natD (isIn [114, 119, 120, 115, 116] ((fmode m).getD (9 - (0 + k)) 0))) ++ (List.range 3).map (fun k => natD (isIn [116, 84, 115, 83] ((fmode m).getD (9 - 3 * (0 + k)) 0))) ++ (List.range 4).map (fun k => natD ((m &&& 61440) / 2 ^ (12 + k) % 2)) = (lbits m).map natD := by
    simp only [lbits, List.map_append, List.map_map, Nat.zero_add]; rfl
  rw [e]
  refine se_cons (s1_return_own rfl ?_) (fun τ h => by cases h.1) fun rf τ _ h => .inl h.1
  intro d hd
  obtain ⟨x, _, rfl⟩ := List.mem_map.mp hd; rfl
end Pm

end
section
open PySem PySem.Calls PyProof.Rows
set_option Elab.async false
set_option linter.unusedVariables false
set_option maxRecDepth 100000
namespace Pm

def ones (n : Nat) : List Nat := (List.range 17).filter fun k => n / 2 ^ k % 2 == 1
theorem rng_filter (f : Nat → Bool) (h : Nat → PyData) (n : Nat) : (rng (0 : Int) 1 n).filterMap (fun d => if f (natOf d) then some (h (natOf d)) else none) = ((List.range n).filter f).map h := by
  rw [show rng 0 1 n = rng ((0 : Nat) : Int) 1 n from rfl, rng_natD, List.filterMap_map]
  induction (List.range n) with
  | nil => rfl
  | cons x r ih =>
    simp only [List.filterMap_cons, Function.comp, natOf_D, Nat.zero_add]
    simp only [Function.comp, natOf_D, Nat.zero_add] at ih
    by_cases hx : f x = true
    · rw [if_pos hx, List.filter_cons_of_pos hx]; simp only [List.map_cons, ih]
    · rw [if_neg hx, List.filter_cons_of_neg hx]; exact ih
theorem pow_small {k : Nat} (h : k ≤ 29) : 2 ^ k < 1073741824 := Nat.lt_of_le_of_lt (Nat.pow_le_pow_right (by decide) h) (by decide)
theorem pow_ne (k : Nat) : 2 ^ k ≠ 0 := by have := Nat.pow_pos (n := k) (show 0 < 2 by decide); omega

theorem fs_ones (n : Nat) : FS FSS CSS (dR 8) 1 [natD n] (.list ((ones n).map natD)) := by
  refine fs_intro ["number"] (fun prog w mg mb L a cd base A => ?_) (bind1 fun _ _ _ _ => by rfl)
  refine se_cons (s1_return (pe_comp (fun d => if (n / 2 ^ natOf d % 2 == 1) then some (natD (natOf d)) else none) (pi_range1 (n := 17) (pe_lit 17)) ⟨rfl, rfl, rfl, rfl, rfl, rfl⟩ (by rw [rng_len]; decide) (fun C => tgt_name (.inl rfl)) (fun C H d hd => ?_)) (.inl rfl)) (fun τ h => by cases h.1) fun rf τ _ h => .inl (h.1.trans ?_)
  · obtain ⟨k, hk, rfl⟩ := rng_mem (a := 0) hd
    rw [natOf_D, Nat.zero_add]
    refine ⟨n / 2 ^ k % 2 == 1, pb_c (pe_modN (pe_divN (pe_name (d := natD n) rfl) (pe_powN (pe_lit 2) (pe_name (d := natD k) rfl) (by omega) (by decide)) (pow_ne k) (pow_small (by omega))) (pe_lit 2) (by decide)) (pe_lit 1) c_eqN, fun hb => ⟨_, by rw [if_pos hb], (pe_name (d := natD k) rfl).scal rfl _⟩, fun hb => by rw [hb]; rfl⟩
  · rw [rng_filter (fun k => n / 2 ^ k % 2 == 1) natD]; rfl

def taken (s : Nat) : Nat :=
  let starts := s - (s &&& (2 * s))
  let even := s + (starts &&& 87381)
  let odd := s + (starts &&& 43690)
  let behind := ((even - (even &&& s)) &&& 43690) ||| ((odd - (odd &&& s)) &&& 87381)
  let within := ((s - (s &&& even)) &&& 43690) ||| ((s &&& even) &&& 87381)
  behind ||| within

theorem fs_taken (s : Nat) (hs : s < 65536) : FS FSS CSS (dR 9) 1 [natD s] (natD (taken s)) := by
  refine fs_intro ["slashes"] (fun prog w mg mb L a cd base A => ?_) (bind1 fun _ _ _ _ => by rfl)
  refine se_go (s1_assign (pe_subN (pe_name (d := natD s) rfl) (pe_andN (pe_name (d := natD s) rfl) (pe_mulN (pe_lit 2) (pe_name (d := natD s) rfl) (by omega))) Nat.and_le_left) (.inl fr) (.inl rfl)) fun τ h => ?_
  subst h
  refine se_go (s1_assign (pe_addN (pe_name (d := natD s) rfl) (pe_andN (pe_name (d := natD _) rfl) (pe_lit 87381))) (.inl fr) (.inl rfl)) fun τ h => ?_
  subst h
  refine se_go (s1_assign (pe_addN (pe_name (d := natD s) rfl) (pe_andN (pe_name (d := natD _) rfl) (pe_lit 43690))) (.inl fr) (.inl rfl)) fun τ h => ?_
  subst h
  refine se_go (s1_assign (pe_orN (pe_andN (pe_subN (pe_name (d := natD _) rfl) (pe_andN (pe_name (d := natD _) rfl) (pe_name (d := natD s) rfl)) Nat.and_le_left) (pe_lit 43690)) (pe_andN (pe_subN (pe_name (d := natD _) rfl) (pe_andN (pe_name (d := natD _) rfl) (pe_name (d := natD s) rfl)) Nat.and_le_left) (pe_lit 87381))) (.inl fr) (.inl rfl)) fun τ h => ?_
  subst h
  refine se_go (s1_assign (pe_orN (pe_andN (pe_subN (pe_name (d := natD s) rfl) (pe_andN (pe_name (d := natD s) rfl) (pe_name (d := natD _) rfl)) Nat.and_le_left) (pe_lit 43690)) (pe_andN (pe_andN (pe_name (d := natD s) rfl) (pe_name (d := natD _) rfl)) (pe_lit 87381))) (.inl fr) (.inl rfl)) fun τ h => ?_
  subst h
  exact se_cons (s1_return (pe_orN (pe_name (d := natD _) rfl) (pe_name (d := natD _) rfl)) (.inl rfl)) (fun τ h => by cases h.1) fun rf τ _ h => .inl (h.1.trans rfl)

def even' (m : Nat) : Nat := if (ones m).length % 2 = 1 then m - 2 ^ ((ones m).getLastD 0) else m
def par (m i : Nat) : Nat := ([1, 2, 4, 8].take i).foldl (fun p s => p ^^^ (p * 2 ^ s)) m
def hidden (m : Nat) : Nat := (par (even' m) 4 ||| even' m) &&& 65535
theorem xor_sh {a n : Nat} (h : a < 2 ^ n) (s : Nat) : a ^^^ (a * 2 ^ s) < 2 ^ (n + s) :=
  Nat.xor_lt_two_pow (Nat.lt_of_lt_of_le h (Nat.pow_le_pow_right (by decide) (by omega))) (by rw [Nat.pow_add]; exact Nat.mul_lt_mul_of_pos_right h (Nat.pow_pos (by decide)))
theorem par_lt {m : Nat} (hm : m < 2 ^ 17) : ∀ i, i < 5 → par m i < 2 ^ 40
  | 0, _ => Nat.lt_of_lt_of_le hm (by decide)
  | 1, _ => Nat.lt_of_lt_of_le (xor_sh hm 1) (by decide)
  | 2, _ => Nat.lt_of_lt_of_le (xor_sh (xor_sh hm 1) 2) (by decide)
  | 3, _ => Nat.lt_of_lt_of_le (xor_sh (xor_sh (xor_sh hm 1) 2) 4) (by decide)
  | 4, _ => Nat.lt_of_lt_of_le (xor_sh (xor_sh (xor_sh (xor_sh hm 1) 2) 4) 8) (by decide)

theorem fs_hidden (m : Nat) (hm : m < 2 ^ 17) : FS FSS CSS (dR 10) 2 [natD m] (natD (hidden m)) := by
  refine fs_intro ["marks"] (fun prog w mg mb L a cd base A => ?_) (bind1 fun _ _ _ _ => by rfl)
  refine se_go (s1_assign (pe_call (fs_ones m) (Nat.le_refl _) (dR_mem 8 (by decide)) (pes_cons (pe_name (d := natD m) rfl) pes_nil) nm8 rfl) (.inl fr) (.inl rfl)) fun τ h => ?_
  subst h
  have hlen : (ones m).length ≤ 17 := by unfold ones; exact Nat.le_trans (List.length_filter_le _ _) (by simp)
  refine se_cons (P₁ := fun rf τ => rf = .next ∧ τ.lookup ("marks" : Str) = some (.dat (natD (even' m))))
    (s1_if (b := ((ones m).length % 2 == 1)) (pb_c (pe_modN ((pe_lenList (pe_name (d := .list ((ones m).map natD)) rfl) (by simp; omega)).eq (d' := natD (ones m).length) (by simp [natD])) (pe_lit 2) (by decide)) (pe_lit 1) c_eqN) (fun hb => ?_) (fun hb => ?_)) (fun τ h => ?_) fun rf τ hne h => absurd h.1 hne
  · have hb' : (ones m).length % 2 = 1 := by simpa using hb
    obtain ⟨ini, la, hla⟩ : ∃ ini la, ones m = ini ++ [la] := by
      have hne : ones m ≠ [] := by intro h; rw [h] at hb'; simp at hb'
      exact ⟨(ones m).dropLast, (ones m).getLast hne, (List.dropLast_concat_getLast hne).symm⟩
    have hmem : la ∈ ones m := by rw [hla]; simp
    have hla' : la < 17 ∧ m / 2 ^ la % 2 = 1 := by
      unfold ones at hmem
      have := List.mem_filter.mp hmem
      exact ⟨List.mem_range.mp this.1, by simpa using this.2⟩
    have hle : 2 ^ la ≤ m := by
      rcases Nat.lt_or_ge m (2 ^ la) with h | h
      · rw [Nat.div_eq_of_lt h] at hla'; simp at hla'
      · exact h
    have hev : even' m = m - 2 ^ la := by unfold even'; rw [if_pos hb', hla]; simp
    refine se_one (S1.weak (s1_assign (pe_subN (pe_name (d := natD m) rfl) (pe_powN (pe_lit 2) (pe_idxLast (ds := ini.map natD) (d := natD la) (pe_name (d := .list (ini.map natD ++ [natD la])) (by rw [show ini.map natD ++ [natD la] = (ones m).map natD from by rw [hla]; simp]; rfl)) (pe_neg (pe_int (i := 1)))) (by omega) (by decide)) hle) (.inl fr) (.inl rfl)) fun rf τ h => ?_)
    obtain ⟨rfl, rfl⟩ := h
    exact ⟨rfl, by rw [hev]; rfl⟩
  · have hb' : ¬ (ones m).length % 2 = 1 := by simpa using hb
    have hev : even' m = m := by unfold even'; rw [if_neg hb']
    exact se_nil ⟨rfl, by rw [hev]; rfl⟩
  · obtain ⟨_, hτ⟩ := h
    have hlt : even' m < 2 ^ 17 := by
      unfold even'
      split
      · exact Nat.lt_of_le_of_lt (Nat.sub_le _ _) hm
      · exact hm
    have hh : hidden m = (par (even' m) 4 ||| even' m) &&& 65535 := rfl
    rw [hh]
    generalize even' m = m' at *
    refine se_go (s1_assign (pe_name hτ) (.inl ff) (.inl rfl)) fun τ₂ h => ?_
    subst h
    refine se_cons (P₁ := fun rf τ => rf = .next ∧ τ.lookup ("marks" : Str) = some (.dat (natD m')) ∧ τ.lookup ("parity" : Str) = some (.dat (natD (par m' 4)))) (s1_for (Pb := fun _ => False) (fun i τ => τ.lookup ("marks" : Str) = some (.dat (natD m')) ∧ τ.lookup ("parity" : Str) = some (.dat (natD (par m' i))))
      (pi_tuple (ds := [1, 2, 4, 8].map natD) (pe_tuple (pes_cons (pe_lit 1) (pes_cons (pe_lit 2) (pes_cons (pe_lit 4) (pes_cons (pe_lit 8) pes_nil))))) fr) ⟨by exact hτ, rfl⟩ (tgt_name (.inl rfl)) (fun H i d τ hd hI => ?_) (fun τ hI => se_nil ⟨rfl, hI⟩) (fun τ h => h.elim)) (fun τ hτ => ?_) (fun rf τ hne h => absurd h.1 hne)
    · have hk : ∃ k : Nat, [1, 2, 4, 8][i]? = some k ∧ d = natD k := by
        rw [List.getElem?_map] at hd
        cases h : [1, 2, 4, 8][i]? with
        | none => rw [h] at hd; cases hd
        | some q => rw [h] at hd; cases hd; exact ⟨q, rfl, rfl⟩
      obtain ⟨k, hk, rfl⟩ := hk
      have hi4 : i < 4 := (List.getElem?_eq_some_iff.mp hk).1
      have hk8 : k ≤ 8 := by
        match i, hi4, hk with
        | 0, _, hk => cases hk; decide
        | 1, _, hk => cases hk; decide
        | 2, _, hk => cases hk; decide
        | 3, _, hk => cases hk; decide
      generalize hσ : bindT _ (natD k) τ = σ₁
      have hm₁ : σ₁.lookup ("marks" : Str) = some (.dat (natD m')) := by rw [← hσ]; exact hI.1
      have hp₁ : σ₁.lookup ("parity" : Str) = some (.dat (natD (par m' i))) := by rw [← hσ]; exact hI.2
      have hk₁ : σ₁.lookup ("step" : Str) = some (.dat (natD k)) := by rw [← hσ]; rfl
      have hlt' := par_lt hlt i (by omega)
      refine se_one (S1.weak (s1_assign (pe_xorN (pe_name hp₁) (pe_shlN (pe_name hp₁) (pe_name hk₁) (by omega) (by omega))) (.inl fr) (.inl rfl)) fun rf τ h => ?_)
      obtain ⟨rfl, rfl⟩ := h
      refine ⟨by exact hm₁, ?_⟩
      rw [lookup_cons_self]
      have e : par m' (i + 1) = par m' i ^^^ (par m' i * 2 ^ k) := by
        unfold par; rw [foldl_take_succ _ _ hk]
      rw [e]; rfl
    · exact se_cons (s1_return (pe_andN (pe_orN (pe_name hτ.2.2) (pe_name hτ.2.1)) (pe_lit 65535)) (.inl rfl)) (fun τ h => by cases h.1) fun rf τ _ h => .inl (h.1.trans rfl)
end Pm

end
section
open PySem PySem.Calls PyProof.Rows
set_option Elab.async false
set_option linter.unusedVariables false
namespace Pm

theorem strip_len (l : List Nat) : (strip l).length ≤ (l.length + 2) * l.length := by
  have piece : ∀ (us : List (Nat × List Nat)) (st : Stp3), (∀ p ∈ st.res, p.length ≤ l.length) → ∀ p ∈ (us.foldl (stripStep l) st).res, p.length ≤ l.length := by
    intro us
    induction us with
    | nil => intro st h; exact h
    | cons u us ih =>
      intro st h
      refine ih _ ?_
      intro p hp
      unfold stripStep at hp
      split at hp
      · split at hp
        · exact h p hp
        · split at hp
          · rcases List.mem_append.mp hp with hp | hp
            · exact h p hp
            · rw [List.mem_singleton.mp hp]; simp; omega
          · exact h p hp
      · exact h p hp
  have flat : ∀ (ps : List (List Nat)) (n : Nat), (∀ p ∈ ps, p.length ≤ n) → ps.flatten.length ≤ ps.length * n := by
    intro ps n
    induction ps with
    | nil => intro _; simp
    | cons p ps ih =>
      intro h
      have h1 := h p (by simp)
      have h2 := ih fun q hq => h q (by simp [hq])
      rw [List.flatten_cons, List.length_append, List.length_cons, Nat.add_mul]
      omega
  unfold strip
  split
  · have h1 : ∀ p ∈ stripEnd l (stripRun l), p.length ≤ l.length := by
      intro p hp
      unfold stripEnd at hp
      split at hp
      · rcases List.mem_append.mp hp with hp | hp
        · exact piece _ _ (by simp) p hp
        · rw [List.mem_singleton.mp hp]; simp
      · exact piece _ _ (by simp) p hp
    have h2 : (stripEnd l (stripRun l)).length ≤ l.length + 2 := by
      have h3 := fold_res (l := l) (units l) ⟨0, none, []⟩
      have h4 : (units l).length ≤ l.length + 1 := escs_len l 0 false
      have h5 : (stripRun l).res.length ≤ l.length + 1 := by unfold stripRun; simp at h3 ⊢; omega
      unfold stripEnd
      split
      · simp; omega
      · omega
    exact Nat.le_trans (flat _ _ h1) (Nat.mul_le_mul_right _ h2)
  · have : 1 * l.length ≤ (l.length + 2) * l.length := Nat.mul_le_mul_right _ (by omega)
    omega

section
variable (f s : Nat)
def rtext : List Nat := (List.range 16).map fun k => [41, 40, 34, 92].getD (2 * (lbits f).getD k 0 + (lbits s).getD k 0) 0
def rtaken : Nat := taken (f &&& s)
def rhid : Nat := hidden (f - (f &&& s) - ((f - (f &&& s)) &&& rtaken f s))
def dueAt (k : Nat) : Option (Nat × List Nat) := if rtaken f s / 2 ^ k % 2 = 1 then some (k, [92, (rtext f s).getD k 0]) else if (f &&& s) / 2 ^ k % 2 = 0 ∨ k = 15 then some (k, [(rtext f s).getD k 0]) else none
def rdue : List (Nat × List Nat) := (List.range 16).filterMap (dueAt f s)
def rleft : List Nat := ((List.range 16).filter fun k => rhid f s / 2 ^ k % 2 == 0).map fun k => (rtext f s).getD k 0
def rnamed : List Nat := (List.range 16).map fun k => if (lbits f).getD k 0 = 1 then (rtext f s).getD k 0 else 97 + k
def runits : List (List Nat) := (units (strip (rnamed f s))).map (·.2)
def rbr : Nat := 65535 - f
def rseen : Nat := rbr f - (rbr f &&& (rtaken f s ||| rhid f s))
def rkept : Nat := (rbr f &&& rtaken f s) - ((rbr f &&& rtaken f s) &&& rhid f s)
def rlisted : Nat := 65536 + (((List.range 16).filter fun k => decide ([97 + k] ∈ runits f s)).map fun k => 2 ^ k).sum
def resc : Nat := (((List.range 16).filter fun k => decide ([92, 97 + k] ∈ runits f s)).map fun k => 2 ^ k).sum
def rep (w : List Nat) : List Nat := (Txt.replace (S w) (S [40, 41]) (S [])).cps.toList
def reps : Nat → List Nat → List Nat
  | 0, w => w
  | n + 1, w => rep (reps n w)
def rword : List Nat := reps 8 ((ones (rseen f s)).map fun k => (rtext f s).getD k 0)
def rwhole : List Nat := ((List.replicate ((rword f s).count 41) [40]).flatten ++ rtext f s) ++ (List.replicate ((rword f s).count 40 + rtaken f s / 65536) [41]).flatten

structure Plain : Prop where
  due : units (rtext f s) = rdue f s
  left : strip (rtext f s) = rleft f s
  rows : fmode (rlisted f s) = lrow (rseen f s)
  ifmt : rlisted f s &&& 61440 = rseen f s / 4096 * 4096
  imode : rlisted f s &&& 4095 = rseen f s % 4096
  kept : fmode (resc f s) = lrow (rkept f s)
  wlen : ∀ i, i ≤ 8 → (reps i ((ones (rseen f s)).map fun k => (rtext f s).getD k 0)).length ≤ 17
  c0 : check (rtext f s) = decide (rword f s = [])
  c1 : check (rwhole f s) = true
  c2 : check (rwhole f s ++ [41]) = false
  c3 : check ([40] ++ rwhole f s) = false
end
end Pm

end
section
open PySem PySem.Calls PyProof.Rows
set_option Elab.async false
set_option linter.unusedVariables false
set_option maxRecDepth 100000
namespace Pm

theorem lbits_len (m : Nat) : (lbits m).length = 16 := by simp [lbits]
theorem lbits_le (m k : Nat) : (lbits m).getD k 0 ≤ 1 := by
  have h : ∀ x ∈ lbits m, x ≤ 1 := by
    intro x hx
    unfold lbits at hx
    simp only [List.mem_append, List.mem_map] at hx
    rcases hx with (⟨k, _, rfl⟩ | ⟨k, _, rfl⟩) | ⟨k, _, rfl⟩
    · unfold isIn; split <;> omega
    · unfold isIn; split <;> omega
    · omega
  rw [List.getD_eq_getElem?_getD]
  cases hk : (lbits m)[k]? with
  | none => simp
  | some x => exact h x (List.mem_of_getElem? hk)
theorem rtext_len (f s : Nat) : (rtext f s).length = 16 := by simp [rtext]
theorem natD_at {l : List Nat} {k : Nat} (h : k < l.length) : (l.map natD)[((k : Nat) : Int).toNat]? = some (natD (l.getD k 0)) := by
  rw [Int.toNat_natCast, List.getElem?_map, List.getElem?_eq_getElem h, List.getD_eq_getElem?_getD, List.getElem?_eq_getElem h]; rfl
theorem ones_lt {n k : Nat} (hn : n < 65536) (h : k ∈ ones n) : k < 16 := by
  unfold ones at h
  obtain ⟨h1, h2⟩ := List.mem_filter.mp h
  have h1' := List.mem_range.mp h1
  by_cases h16 : k = 16
  · subst h16
    have : n / 2 ^ 16 = 0 := Nat.div_eq_of_lt hn
    simp [this] at h2
  · omega
theorem sum_cast (l : List Nat) (g : Nat → Nat) : (l.map fun k => ((g k : Nat) : Int)).sum = ((l.map g).sum : Nat) := by
  induction l with
  | nil => rfl
  | cons x r ih => simp only [List.map_cons, List.sum_cons, ih]; push_cast; rfl
theorem inS (us : List (List Nat)) (x : List Nat) : ((us.map S).any (· == S x)) = decide (x ∈ us) := by
  rw [Bool.eq_iff_iff, List.any_eq_true, decide_eq_true_eq]
  constructor
  · rintro ⟨y, hy, e⟩
    obtain ⟨u, hu, rfl⟩ := List.mem_map.mp hy
    rw [S_inj (beq_iff_eq.mp e)] at hu; exact hu
  · intro h; exact ⟨S x, List.mem_map_of_mem h, by simp⟩

theorem canLay_all {ds : List PyData} (h : ∀ d ∈ ds, d.canLay0 = true) : PyData.canLayAll0 ds = true := by
  induction ds with
  | nil => rfl
  | cons d r ih => simp only [PyData.canLayAll0, Bool.and_eq_true]; exact ⟨h d (by simp), ih fun x hx => h x (by simp [hx])⟩
theorem depth_all {ds : List PyData} {n : Nat} (h : ∀ d ∈ ds, d.depth ≤ n) : PyData.depthAll ds ≤ n := by
  induction ds with
  | nil => simp [PyData.depthAll]
  | cons d r ih =>
    have h1 := h d (by simp); have h2 := ih fun x hx => h x (by simp [hx])
    simp only [PyData.depthAll]; omega
theorem lay_str {l : List Nat} (h : ∀ c ∈ l, c < 1114112) : (strD l).canLay0 = true := by
  show PyData.strOk (S l) = true
  unfold PyData.strOk
  simp only [S, List.all_toArray, List.all_eq_true, decide_eq_true_eq]
  exact fun c hc => h c hc
theorem shaped_list {ds : List PyData} (h1 : ∀ d ∈ ds, d.canLay0 = true) (h2 : ∀ d ∈ ds, d.depth ≤ 10) : SeqAt.shaped (.list ds) = true := by
  unfold SeqAt.shaped
  have h3 := depth_all h2
  have h4 : (PyData.list ds).depth ≤ 64 := by simp only [PyData.depth]; omega
  have h5 : (PyData.list ds).canLay0 = true := canLay_all h1
  rw [h5, Bool.true_and]; exact decide_eq_true h4
theorem shaped_units {us : List (Nat × List Nat)} (h : ∀ u ∈ us, ∀ c ∈ u.2, c < 1114112) : SeqAt.shaped (.list (us.map unitD)) = true := by
  refine shaped_list (fun d hd => ?_) fun d hd => ?_
  · obtain ⟨u, hu, rfl⟩ := List.mem_map.mp hd
    have := lay_str (h u hu)
    simp only [unitD, PyData.canLay0, PyData.canLayAll0, Bool.true_and, Bool.and_true]
    exact this
  · obtain ⟨u, hu, rfl⟩ := List.mem_map.mp hd
    simp [unitD, PyData.depth, PyData.depthAll]
theorem rtext_mem {f s c : Nat} (h : c ∈ rtext f s) : c < 128 := by
  unfold rtext at h
  obtain ⟨k, _, rfl⟩ := List.mem_map.mp h
  have h1 := lbits_le f k; have h2 := lbits_le s k
  generalize (lbits f).getD k 0 = a at *; generalize (lbits s).getD k 0 = b at *
  match a, b, h1, h2 with
  | 0, 0, _, _ => decide
  | 0, 1, _, _ => decide
  | 1, 0, _, _ => decide
  | 1, 1, _, _ => decide
theorem rtext_at {f s k : Nat} (h : k < 16) : (rtext f s)[((k : Nat) : Int).toNat]? = some ((rtext f s).getD k 0) := at_getD (by rw [rtext_len]; exact h)
theorem rtext_getD_lt {f s k : Nat} : (rtext f s).getD k 0 < 128 := by
  rw [List.getD_eq_getElem?_getD]
  cases hk : (rtext f s)[k]? with
  | none => simp
  | some x => exact rtext_mem (List.mem_of_getElem? hk)
theorem rdue_mem {f s : Nat} {u : Nat × List Nat} (h : u ∈ rdue f s) : ∀ c ∈ u.2, c < 1114112 := by
  unfold rdue at h
  obtain ⟨k, _, hk⟩ := List.mem_filterMap.mp h
  unfold dueAt at hk
  have := @rtext_getD_lt f s k
  generalize (rtext f s).getD k 0 = cc at *
  split at hk
  · cases hk; intro c hc; simp at hc; omega
  · split at hk
    · cases hk; intro c hc; simp at hc; omega
    · cases hk

end Pm

end
section
open PySem PySem.Calls PyProof.Rows
set_option Elab.async false
set_option linter.unusedVariables false
set_option maxRecDepth 100000
namespace Pm

theorem rng0 (n : Nat) (f : Nat → PyData) : (rng 0 1 n).filterMap (fun d => some (f (natOf d))) = (List.range n).map f := by
  rw [show rng 0 1 n = rng ((0 : Nat) : Int) 1 n from rfl, rng_map]; simp
theorem rng0_mem {n : Nat} {d : PyData} (h : d ∈ rng 0 1 n) : ∃ k, k < n ∧ d = natD k := by
  obtain ⟨k, hk, rfl⟩ := rng_mem (a := 0) h; exact ⟨k, hk, by rw [Nat.zero_add]⟩
theorem and_lt {a b n : Nat} (h : a < n) : a &&& b < n := Nat.lt_of_le_of_lt Nat.and_le_left h
theorem map_strD (l : List Nat) (g : Nat → Nat) : (l.map fun k => strD [g k]) = ((l.map fun k => [g k]).map fun x => PyData.str (S x)) := by rw [List.map_map]; rfl
theorem flat_map (l : List Nat) (g : Nat → Nat) : (l.map fun k => [g k]).flatten = l.map g := by induction l <;> simp_all

theorem visC_at {σ : Sto} {x : Str} {sv : SV} (h : σ.lookup x = some sv) : ∀ {names : List (Str × NameKind)}, (names.any fun p => p.1 == x && p.2 == .free) = true → (visC names σ).lookup x = some (.dat (frzSV sv))
  | [], hm => by simp at hm
  | (n, k) :: r, hm => by
    unfold visC
    by_cases hk : (k == NameKind.free) = true
    · rw [if_pos hk]
      by_cases hn : x = n
      · subst hn; rw [h]; exact lookup_cons_self
      · have hm' : (r.any fun p => p.1 == x && p.2 == .free) = true := by
          rw [List.any_cons] at hm
          rcases Bool.or_eq_true_iff.mp hm with q | q
          · exact absurd (beq_iff_eq.mp (Bool.and_eq_true_iff.mp q).1).symm hn
          · exact q
        have ih := visC_at h hm'
        split
        · rw [lookup_cons_ne hn]; exact ih
        · exact ih
    · rw [if_neg hk]
      refine visC_at h ?_
      rw [List.any_cons] at hm
      rcases Bool.or_eq_true_iff.mp hm with q | q
      · exact absurd (Bool.and_eq_true_iff.mp q).2 hk
      · exact q
/-- the first half: the texts -/
def mid1 (f s : Nat) (τ : Sto) : Prop :=
  τ.lookup ("first" : Str) = some (.dat (natD f)) ∧ τ.lookup ("upper" : Str) = some (.dat (.list ((lbits f).map natD))) ∧ τ.lookup ("text" : Str) = some (.dat (strD (rtext f s))) ∧ τ.lookup ("taken" : Str) = some (.dat (natD (rtaken f s))) ∧ τ.lookup ("hidden" : Str) = some (.dat (natD (rhid f s)))

abbrev jr (prog : Program) (w : World) (mg mb : Str → Option Value) (L a : Addr) (cd : Value) (base : Heap) (A : Around) : J := J.fn prog w mg mb FSS CSS (dR 11) L a cd base 4 A
def PostR (rf : RF) (_ : Sto) : Prop := rf = .ret (.bool true) ∨ (rf = .next ∧ (PyData.bool true) = .none)

end Pm

end
section
open PySem PySem.Calls PyProof.Rows
set_option Elab.async false
set_option linter.unusedVariables false
set_option maxRecDepth 100000
namespace Pm


def letts : List Nat := [97, 98, 99, 100, 101, 102, 103, 104, 105, 106, 107, 108, 109, 110, 111, 112]
theorem letts_at {k : Nat} (h : k < 16) : letts[((k : Nat) : Int).toNat]? = some (97 + k) := by
  rw [Int.toNat_natCast]
  have : letts = (List.range 16).map (97 + ·) := by decide
  rw [this, List.getElem?_map, List.getElem?_range h]; rfl
def snd : PyData → PyData
  | .tuple [_, u] => u
  | d => d
theorem snd_units (us : List (Nat × List Nat)) : (us.map unitD).filterMap (fun d => some (snd d)) = (us.map (·.2)).map strD := by
  rw [List.filterMap_map, List.map_map]
  induction us with
  | nil => rfl
  | cons u r ih => simp only [List.filterMap_cons, Function.comp, List.map_cons] at ih ⊢; rw [ih]; rfl
theorem rnamed_len (f s : Nat) : (rnamed f s).length = 16 := by simp [rnamed]
theorem rnamed_strip (f s : Nat) : (strip (rnamed f s)).length ≤ 288 := by have := strip_len (rnamed f s); rw [rnamed_len] at this; omega
theorem runits_len (f s : Nat) : (units (strip (rnamed f s))).length ≤ 289 := by
  have h := rnamed_strip f s
  have h2 : (units (strip (rnamed f s))).length ≤ (strip (rnamed f s)).length + 1 := escs_len _ 0 false
  omega

/-- the sum of the places whose letter is among the units -/
theorem sum_places (p : Nat → Bool) : (rng 0 1 16).filterMap (fun d => if p (natOf d) then some (natD (2 ^ natOf d)) else none) = (((List.range 16).filter p).map fun k => ((2 ^ k : Nat) : Int)).map .int := by
  rw [rng_filter p fun k => natD (2 ^ k), List.map_map]; rfl



theorem taken_lt (s : Nat) : taken s < 131072 := by
  unfold taken
  have h1 : ∀ x, x &&& 43690 < 2 ^ 17 := fun x => Nat.lt_of_le_of_lt Nat.and_le_right (by decide)
  have h2 : ∀ x, x &&& 87381 < 2 ^ 17 := fun x => Nat.lt_of_le_of_lt Nat.and_le_right (by decide)
  exact Nat.or_lt_two_pow (Nat.or_lt_two_pow (h1 _) (h2 _)) (Nat.or_lt_two_pow (h1 _) (h2 _))
theorem rep_eq (w : List Nat) : Txt.replace (S w) ("()" : Str) ("" : Str) = S (rep w) := by
  have e1 : ("()" : Str) = S [40, 41] := by decide +kernel
  have e2 : ("" : Str) = S [] := by decide +kernel
  rw [e1, e2]; exact S_of _
theorem repl_len (c : Nat) : ∀ n, (List.replicate n [c]).flatten.length = n
  | 0 => rfl
  | n + 1 => by rw [List.replicate_succ, List.flatten_cons, List.length_append, repl_len c n]; simp; omega
theorem rwhole_len {f s : Nat} (H : Plain f s) : (rwhole f s).length ≤ 60 := by
  have h1 : (rword f s).length ≤ 17 := H.wlen 8 (Nat.le_refl _)
  have h2 := List.count_le_length (a := 41) (l := rword f s)
  have h3 := List.count_le_length (a := 40) (l := rword f s)
  have h4 : rtaken f s / 65536 ≤ 1 := by have := taken_lt (f &&& s); unfold rtaken; omega
  unfold rwhole
  rw [List.length_append, List.length_append, repl_len, repl_len, rtext_len]
  omega

theorem sz4 {a b c d : PyData} : [a, b, c, d].length ≤ sizeLine := by show 4 ≤ sizeLine; decide
def ckD : PyData → Option PyData
  | .str x => some (.bool (check x.cps.toList))
  | _ => none
theorem ckD_S (l : List Nat) : ckD (strD l) = some (.bool (check l)) := by simp [ckD, S]
set_option maxHeartbeats 4000000 in
/-- the answers -/
theorem read_h {f s : Nat} (H : Plain f s) {prog w mg mb L a cd base A} {τ : Sto} (ht : τ.lookup ("text" : Str) = some (.dat (strD (rtext f s)))) (hw : τ.lookup ("word" : Str) = some (.dat (strD (rword f s)))) (hwh : τ.lookup ("whole" : Str) = some (.dat (strD (rwhole f s)))) :
    SE (jr prog w mg mb L a cd base A) τ ((dR 11).body.drop 22) PostR := by
  have hwhl := rwhole_len H
  have hck : ∀ d ∈ [strD (rtext f s), strD (rwhole f s), strD (rwhole f s ++ [41]), strD ([40] ++ rwhole f s)], ∃ l : List Nat, d = strD l ∧ l.length ≤ 61 := fun d hd => by
    simp only [List.mem_cons, List.not_mem_nil, or_false] at hd
    rcases hd with rfl | rfl | rfl | rfl
    · exact ⟨_, rfl, by rw [rtext_len]; omega⟩
    · exact ⟨_, rfl, by omega⟩
    · exact ⟨_, rfl, by simp; omega⟩
    · exact ⟨_, rfl, by simp; omega⟩
  refine se_go (P₁ := fun τ' => τ' = (("answers" : Str), SV.dat (.list [.bool (decide (rword f s = [])), .bool true, .bool false, .bool false])) :: τ) (S1.weak (s1_assignComp ckD (pi_tuple (ds := [strD (rtext f s), strD (rwhole f s), strD (rwhole f s ++ [41]), strD ([40] ++ rwhole f s)])
      (pe_tuple (pes_cons ((pe_name ht).scal rfl .fresh) (pes_cons ((pe_name hwh).scal rfl .fresh) (pes_cons (pe_catS (pe_name hwh) (pe_strS [41]) (by simp; omega)) (pes_cons (pe_catS (pe_strS [40]) (pe_name hwh) (by simp; omega)) pes_nil)))) sz4) fr) ⟨rfl, rfl, rfl, rfl, rfl, rfl⟩ (by show 4 < 1000; decide) (fun C => tgt_name (.inl rfl)) (fun C Hh d hd => ?_) rfl) fun rf τ' h => ?_) fun τ₁ h => ?_
  · obtain ⟨l, rfl, hl⟩ := hck d hd
    have h2 := strip_len l
    have h3 : (l.length + 2) * l.length ≤ 63 * 61 := Nat.mul_le_mul (by omega) hl
    exact ⟨_, ckD_S l, pe_call (fs_check l (by omega) (by omega)) (show 4 ≤ 4 by decide) (dR_mem 2 (by decide)) (pes_cons (pe_name (d := strD l) rfl) pes_nil) nm2 rfl⟩
  · obtain ⟨rfl, rfl⟩ := h
    refine ⟨rfl, ?_⟩
    have e : [strD (rtext f s), strD (rwhole f s), strD (rwhole f s ++ [41]), strD ([40] ++ rwhole f s)].filterMap ckD = [.bool (decide (rword f s = [])), .bool true, .bool false, .bool false] := by
      simp only [List.filterMap_cons, List.filterMap_nil, ckD_S, H.c0, H.c1, H.c2, H.c3]
    rw [e]
  subst h
  have hc0 : (rword f s == []) = decide (rword f s = []) := by rw [Bool.eq_iff_iff]; simp
  refine se_go (s1_assign (pe_tuple (ds := [.bool (rword f s == []), .bool true, .bool false, .bool false]) (pes_cons (pe_c (pe_name (d := strD (rword f s)) (by exact hw)) (pe_strS []) c_eqS) (pes_cons pe_bool (pes_cons pe_bool (pes_cons pe_bool pes_nil)))) sz4) (.inl fr) (.inl rfl)) fun τ₁ h => ?_
  subst h
  rw [hc0]
  generalize decide (rword f s = []) = c0 at *
  have hL : SeqAt.shaped (.list ([c0, true, false, false].map fun b => PyData.tuple [.bool b, .bool (!b)])) = true := shaped_list (fun d hd => by obtain ⟨b, _, rfl⟩ := List.mem_map.mp hd; rfl) fun d hd => by
    obtain ⟨b, _, rfl⟩ := List.mem_map.mp hd; simp [PyData.depth, PyData.depthAll]
  refine se_cons (s1_return (pe_c ((pe_comp (fun d => match d with | .bool b => some (.tuple [.bool (b == true), .bool (b == false)]) | _ => none) (pi_list (pe_name (d := .list [.bool c0, .bool true, .bool false, .bool false]) rfl) ff) ⟨rfl, rfl, rfl, rfl, rfl, rfl⟩ (by show 4 < 1000; decide) (fun C => tgt_name (.inl rfl)) (fun C Hh d hd => ?_)).eq (d' := .list ([c0, true, false, false].map fun b => PyData.tuple [.bool b, .bool (!b)])) ?_)
    ((pe_comp (fun d => match d with | .bool b => some (.tuple [.bool b, .bool (!b)]) | _ => none) (pi_tuple (pe_name (d := .tuple [.bool c0, .bool true, .bool false, .bool false]) rfl) ff) ⟨rfl, rfl, rfl, rfl, rfl, rfl⟩ (by show 4 < 1000; decide) (fun C => tgt_name (.inl rfl)) (fun C Hh d hd => ?_)).eq (d' := .list ([c0, true, false, false].map fun b => PyData.tuple [.bool b, .bool (!b)])) rfl) (c_deep_eq hL)) (.inl rfl)) (fun τ h => by cases h.1) fun rf τ _ h => .inl h.1
  · have : ∃ b, d = .bool b := by
      simp only [List.mem_cons, List.not_mem_nil, or_false] at hd
      rcases hd with rfl | rfl | rfl | rfl <;> exact ⟨_, rfl⟩
    obtain ⟨b, rfl⟩ := this
    exact ⟨_, rfl, pe_tuple (pes_cons (pe_c (pe_name (d := .bool b) rfl) pe_bool c_is_bool) (pes_cons (pe_c (pe_name (d := .bool b) rfl) pe_bool c_is_bool) pes_nil)) sz2⟩
  · cases c0 <;> rfl
  · have : ∃ b, d = .bool b := by
      simp only [List.mem_cons, List.not_mem_nil, or_false] at hd
      rcases hd with rfl | rfl | rfl | rfl <;> exact ⟨_, rfl⟩
    obtain ⟨b, rfl⟩ := this
    exact ⟨_, rfl, pe_tuple (pes_cons ((pe_name (d := .bool b) rfl).scal rfl _) (pes_cons (pe_not (pe_name (d := .bool b) rfl)) pes_nil)) sz2⟩

set_option maxHeartbeats 4000000 in
/-- from the brackets' word on -/
theorem read_g {f s : Nat} (hf : f < 65536) (hs : s < 65536) (H : Plain f s) {prog w mg mb L a cd base A} {τ : Sto} (ht : τ.lookup ("text" : Str) = some (.dat (strD (rtext f s)))) (hk : τ.lookup ("taken" : Str) = some (.dat (natD (rtaken f s)))) (hs : τ.lookup ("seen" : Str) = some (.dat (natD (rseen f s)))) :
    SE (jr prog w mg mb L a cd base A) τ ((dR 11).body.drop 19) PostR := by
  have hseen : rseen f s < 65536 := by unfold rseen rbr; omega
  have hones : (ones (rseen f s)).length ≤ 17 := by unfold ones; exact Nat.le_trans (List.length_filter_le _ _) (by simp)
  refine se_go (P₁ := fun τ' => τ'.lookup ("text" : Str) = some (.dat (strD (rtext f s))) ∧ τ'.lookup ("taken" : Str) = some (.dat (natD (rtaken f s))) ∧ τ'.lookup ("word" : Str) = some (.dat (strD ((ones (rseen f s)).map fun k => (rtext f s).getD k 0))))
    (S1.weak (s1_assign ((pe_join0 (ls := (ones (rseen f s)).map fun k => [(rtext f s).getD k 0]) (pe_strS []) ((pe_comp (fun d => some (strD [(rtext f s).getD (natOf d) 0])) (pi_list (pe_call (fs_ones (rseen f s)) (show 1 ≤ 4 by decide) (dR_mem 8 (by decide)) (pes_cons (pe_name hs) pes_nil) nm8 rfl) fr) ⟨rfl, rfl, rfl, rfl, rfl, rfl⟩ (by rw [List.length_map]; omega) (fun C => tgt_name (.inl rfl)) (fun C Hh d hd => ?_)).eq ?_) ?_).eq (d' := strD ((ones (rseen f s)).map fun k => (rtext f s).getD k 0)) ?_) (.inl fr) (.inl rfl)) fun rf τ' h => ?_) fun τ₁ h => ?_
  · obtain ⟨k, hk', rfl⟩ := List.mem_map.mp hd
    rw [natOf_D]
    exact ⟨_, rfl, pe_idxStr (l := rtext f s) (pe_name (by exact visC_at ht (by rfl))) (pe_name (d := natD k) rfl) (by omega) (by have := ones_lt hseen hk'; omega) (rtext_at (ones_lt hseen hk'))⟩
  · rw [List.filterMap_map]
    have : ((fun d => some (strD [(rtext f s).getD (natOf d) 0])) ∘ natD) = fun k => some (strD [(rtext f s).getD k 0]) := by funext k; simp [natOf_D]
    rw [this, ← map_strD]; simp
  · rw [flat_map, List.length_map]; omega
  · rw [flat_map]
  · obtain ⟨rfl, rfl⟩ := h; exact ⟨rfl, by exact ht, by exact hk, rfl⟩
  obtain ⟨h1, h2, h3⟩ := h
  refine se_go (P₁ := fun τ' => τ'.lookup ("text" : Str) = some (.dat (strD (rtext f s))) ∧ τ'.lookup ("taken" : Str) = some (.dat (natD (rtaken f s))) ∧ τ'.lookup ("word" : Str) = some (.dat (strD (rword f s))))
    (s1_forT (Pb := fun _ => False) (fun i τ' => τ'.lookup ("text" : Str) = some (.dat (strD (rtext f s))) ∧ τ'.lookup ("taken" : Str) = some (.dat (natD (rtaken f s))) ∧ τ'.lookup ("word" : Str) = some (.dat (strD (reps i ((ones (rseen f s)).map fun k => (rtext f s).getD k 0)))))
      (pi_range1 (n := 8) (pe_lit 8)) ⟨h1, h2, h3⟩ (tgt_name (.inl rfl)) (fun Hh i d τ' hd hI => ?_) (fun τ' hI => se_nil ⟨rfl, hI⟩) (fun τ' h => h.elim)) fun τ₂ h => ?_
  · obtain ⟨hi, rfl⟩ := rng_get hd
    have hlen := H.wlen i (by omega)
    refine se_replace (x := S (reps i ((ones (rseen f s)).map fun k => (rtext f s).getD k 0))) (by exact hI.2.2) rfl (by decide +kernel) (by rw [S_len]; show _ + _ * 0 ≤ _; omega) (.inl rfl) (se_nil ⟨by exact hI.1, by exact hI.2.1, ?_⟩)
    rw [lookup_cons_self, rep_eq]; rfl
  obtain ⟨h1, h2, h3⟩ := h
  have hwl : (rword f s).length ≤ 17 := H.wlen 8 (Nat.le_refl _)
  have c41 := List.count_le_length (a := 41) (l := rword f s)
  have c40 := List.count_le_length (a := 40) (l := rword f s)
  have htk : rtaken f s / 65536 ≤ 1 := by have := taken_lt (f &&& s); unfold rtaken; omega
  have hwhl := rwhole_len H
  have hwhl' : ((List.replicate ((rword f s).count 41) [40]).flatten ++ rtext f s).length + (List.replicate ((rword f s).count 40 + rtaken f s / 65536) [41]).flatten.length ≤ 60 := by
    rw [← List.length_append]; exact hwhl
  refine se_go (P₁ := fun τ' => τ' = (("whole" : Str), SV.dat (strD (rwhole f s))) :: τ₂) (S1.weak (s1_assign ((pe_catS (pe_catS (pe_mulStr (l := [40]) (n := (rword f s).count 41) (pe_strS [40]) ((pe_count (pe_name h3) (pe_strS [41])).eq (by rw [count_S])) (by omega) (by decide)) (pe_name h1) (by simp only [List.length_append] at hwhl'; omega))
    (pe_mulStr (l := [41]) (n := (rword f s).count 40 + rtaken f s / 65536) (pe_strS [41]) (pe_addN ((pe_count (pe_name h3) (pe_strS [40])).eq (by rw [count_S])) (pe_divN (pe_name h2) (pe_lit 65536) (by decide) (by decide))) (by omega) (by decide)) (by omega)).eq (d' := strD (rwhole f s)) rfl) (.inl fr) (.inl rfl)) fun rf τ' h => h) fun τ₃ h => ?_
  subst h
  exact read_h H (by exact h1) (by exact h3) rfl
end Pm

end
section
open PySem PySem.Calls PyProof.Rows
set_option Elab.async false
set_option linter.unusedVariables false
set_option maxRecDepth 100000
namespace Pm


theorem getD_lt {l : List Nat} {k n : Nat} (h : ∀ x ∈ l, x < n) (h0 : 0 < n) : l.getD k 0 < n := by
  rw [List.getD_eq_getElem?_getD]
  cases hk : l[k]? with
  | none => simpa using h0
  | some x => exact h x (List.mem_of_getElem? hk)
theorem lrow_lt {m c : Nat} (h : c ∈ lrow m) : c < 1114112 := by
  have hx : ∀ k, ∀ x ∈ xs k, x < 1114112 := by intro k x hx; unfold xs at hx; split at hx <;> simp at hx <;> omega
  have hs : ∀ k, ∀ x ∈ seg m k, x < 1114112 := by
    intro k x hx'
    unfold seg at hx'
    simp only [List.mem_cons, List.not_mem_nil, or_false] at hx'
    rcases hx' with rfl | rfl | rfl
    · exact getD_lt (by decide) (by decide)
    · exact getD_lt (by decide) (by decide)
    · exact getD_lt (hx k) (by decide)
  unfold lrow at h
  simp only [List.mem_append, List.mem_singleton] at h
  rcases h with ((rfl | h) | h) | h
  · exact getD_lt (by decide) (by decide)
  · exact hs _ _ h
  · exact hs _ _ h
  · exact hs _ _ h
theorem rseen_lt (f s : Nat) : rseen f s < 65536 := by unfold rseen rbr; omega
theorem rkept_lt (f s : Nat) : rkept f s < 65536 := by
  unfold rkept
  have : rbr f &&& rtaken f s ≤ rbr f := Nat.and_le_left
  have : rbr f ≤ 65535 := by unfold rbr; omega
  omega
theorem runits_map (f s : Nat) : (runits f s).map strD = ((runits f s).map S).map .str := by rw [List.map_map]; rfl

theorem sz3 {a b c : PyData} : [a, b, c].length ≤ sizeLine := by show 3 ≤ sizeLine; decide
set_option maxHeartbeats 4000000 in
/-- from the brackets on -/
theorem read_e {f s : Nat} (hf : f < 65536) (hs : s < 65536) (H : Plain f s) {prog w mg mb L a cd base A} {τ : Sto} (hτ : mid1 f s τ) (hl : τ.lookup ("letters" : Str) = some (.dat (strD letts))) (hu : τ.lookup ("units" : Str) = some (.dat (.list ((runits f s).map strD)))) :
    SE (jr prog w mg mb L a cd base A) τ ((dR 11).body.drop 13) PostR := by
  obtain ⟨m1, m2, m3, m4, m5⟩ := hτ
  refine se_go (s1_assign ((pe_subN (pe_lit 65535) (pe_name m1) (by omega)).eq (d' := natD (rbr f)) rfl) (.inl fr) (.inl rfl)) fun τ₁ h => ?_
  subst h
  refine se_go (s1_assign ((pe_subN (pe_name (d := natD (rbr f)) rfl) (pe_andN (pe_name (d := natD (rbr f)) rfl) (pe_orN (pe_name (d := natD (rtaken f s)) (by exact m4)) (pe_name (d := natD (rhid f s)) (by exact m5)))) Nat.and_le_left).eq (d' := natD (rseen f s)) rfl) (.inl fr) (.inl rfl)) fun τ₁ h => ?_
  subst h
  refine se_go (s1_assign ((pe_subN (pe_andN (pe_name (d := natD (rbr f)) rfl) (pe_name (d := natD (rtaken f s)) (by exact m4))) (pe_andN (pe_andN (pe_name (d := natD (rbr f)) rfl) (pe_name (d := natD (rtaken f s)) (by exact m4))) (pe_name (d := natD (rhid f s)) (by exact m5))) Nat.and_le_left).eq (d' := natD (rkept f s)) rfl) (.inl fr) (.inl rfl)) fun τ₁ h => ?_
  generalize hσ : (_ :: _ :: _ :: τ : Sto) = σ₁ at h
  subst h
  have n3 : τ₁.lookup ("text" : Str) = some (.dat (strD (rtext f s))) := by rw [← hσ]; exact m3
  have n4 : τ₁.lookup ("taken" : Str) = some (.dat (natD (rtaken f s))) := by rw [← hσ]; exact m4
  have n5 : τ₁.lookup ("letters" : Str) = some (.dat (strD letts)) := by rw [← hσ]; exact hl
  have n6 : τ₁.lookup ("units" : Str) = some (.dat (.list ((runits f s).map strD))) := by rw [← hσ]; exact hu
  have n7 : τ₁.lookup ("seen" : Str) = some (.dat (natD (rseen f s))) := by rw [← hσ]; rfl
  have n8 : τ₁.lookup ("kept" : Str) = some (.dat (natD (rkept f s))) := by rw [← hσ]; rfl
  clear hσ
  refine se_go (s1_assign ((pe_addN (b := (((List.range 16).filter fun k => decide ([97 + k] ∈ runits f s)).map fun k => 2 ^ k).sum) (pe_lit 65536) ((pe_sum (ns := ((List.range 16).filter fun k => decide ([97 + k] ∈ runits f s)).map fun k => ((2 ^ k : Nat) : Int)) ((pe_comp (fun d => if (decide ([97 + natOf d] ∈ runits f s)) then some (natD (2 ^ natOf d)) else none) (pi_range1 (n := 16) (pe_lit 16)) ⟨rfl, rfl, rfl, rfl, rfl, rfl⟩ (by rw [rng_len]; decide) (fun C => tgt_name (.inl rfl)) (fun C Hh d hd => ?_)).eq ?_)).eq ?_)).eq (d' := natD (rlisted f s)) rfl) (.inl fr) (.inl rfl)) fun τ₂ h => ?_
  · obtain ⟨k, hk, rfl⟩ := rng0_mem hd
    rw [natOf_D]
    refine ⟨decide ([97 + k] ∈ runits f s), (pb_c (pe_idxStr (c := 97 + k) (l := letts) (pe_name (by exact visC_at n5 (by rfl))) (pe_name (d := natD k) rfl) (Int.natCast_nonneg _) (by omega) (letts_at hk)) (pe_name (d := .list (((runits f s).map S).map .str)) (by rw [← runits_map]; exact visC_at n6 (by rfl))) c_in_list).eq (by rw [inS]), fun hb => ⟨_, by rw [if_pos hb]; rfl, pe_powN (pe_lit 2) (pe_name (d := natD k) rfl) (by omega) (by decide)⟩, fun hb => by rw [hb]; rfl⟩
  · rw [sum_places fun k => decide ([97 + k] ∈ runits f s)]
  · rw [sum_cast]
  subst h
  have hshape : SeqAt.shaped (.list [strD (lrow (rseen f s)), natD (rseen f s / 4096 * 4096), natD (rseen f s % 4096)]) = true := shaped_list (fun d hd => by
    simp only [List.mem_cons, List.not_mem_nil, or_false] at hd
    rcases hd with rfl | rfl | rfl
    · exact lay_str fun c hc => lrow_lt hc
    · rfl
    · rfl) fun d hd => by
    simp only [List.mem_cons, List.not_mem_nil, or_false] at hd
    rcases hd with rfl | rfl | rfl <;> simp [PyData.depth, natD]
  have nl : List.lookup ("listed" : Str) ((("listed" : Str), SV.dat (natD (rlisted f s))) :: τ₁) = some (.dat (natD (rlisted f s))) := rfl
  refine se_go (P₁ := fun τ' => τ' = ((("listed" : Str), SV.dat (natD (rlisted f s))) :: τ₁)) (S1.weak (s1_if (P := fun rf τ' => rf = .next ∧ τ' = ((("listed" : Str), SV.dat (natD (rlisted f s))) :: τ₁)) (b := false) (pb_c
    ((pe_list (ds := [strD (fmode (rlisted f s)), natD (rlisted f s &&& 61440), natD (rlisted f s &&& 4095)]) (pes_cons (pe_call (fs_filemode (rlisted f s)) (show 2 ≤ 4 by decide) (dR_mem 5 (by decide)) (pes_cons (pe_name nl) pes_nil) nm5 rfl) (pes_cons (pe_call (fs_IFMT (rlisted f s)) (show 1 ≤ 4 by decide) (dR_mem 4 (by decide)) (pes_cons (pe_name nl) pes_nil) nm4 rfl) (pes_cons (pe_call (fs_IMODE (rlisted f s)) (show 1 ≤ 4 by decide) (dR_mem 3 (by decide)) (pes_cons (pe_name nl) pes_nil) nm3 rfl) pes_nil))) sz3).eq (d' := .list [strD (lrow (rseen f s)), natD (rseen f s / 4096 * 4096), natD (rseen f s % 4096)]) (by rw [H.rows, H.ifmt, H.imode]))
    (pe_list (ds := [strD (lrow (rseen f s)), natD (rseen f s / 4096 * 4096), natD (rseen f s % 4096)]) (pes_cons (pe_call (fs_row (rseen f s) (rseen_lt f s)) (show 2 ≤ 4 by decide) (dR_mem 6 (by decide)) (pes_cons (pe_name (d := natD (rseen f s)) (by exact n7)) pes_nil) nm6 rfl) (pes_cons (pe_mulN (pe_divN (pe_name (d := natD (rseen f s)) (by exact n7)) (pe_lit 4096) (by decide) (by decide)) (pe_lit 4096) (by decide)) (pes_cons (pe_modN (pe_name (d := natD (rseen f s)) (by exact n7)) (pe_lit 4096) (by decide)) pes_nil))) sz3) (c_deep_ne hshape)) (fun h => by cases h) (fun _ => se_nil ⟨rfl, rfl⟩)) fun rf τ h => h) fun τ' h => ?_
  subst h
  refine se_go (P₁ := fun τ' => τ' = ((("listed" : Str), SV.dat (natD (rlisted f s))) :: τ₁)) (S1.weak (s1_if (P := fun rf τ' => rf = .next ∧ τ' = ((("listed" : Str), SV.dat (natD (rlisted f s))) :: τ₁)) (b := false) ((pb_c (d₁ := strD (fmode (resc f s)))
    (pe_call (fs_filemode (resc f s)) (show 2 ≤ 4 by decide) (dR_mem 5 (by decide)) (pes_cons ((pe_sum (ns := ((List.range 16).filter fun k => decide ([92, 97 + k] ∈ runits f s)).map fun k => ((2 ^ k : Nat) : Int)) ((pe_comp (fun d => if (decide ([92, 97 + natOf d] ∈ runits f s)) then some (natD (2 ^ natOf d)) else none) (pi_range1 (n := 16) (pe_lit 16)) ⟨rfl, rfl, rfl, rfl, rfl, rfl⟩ (by rw [rng_len]; decide) (fun C => tgt_name (.inl rfl)) (fun C Hh d hd => ?_)).eq ?_)).eq (d' := natD (resc f s)) ?_) pes_nil) nm5 rfl)
    (pe_call (fs_row (rkept f s) (rkept_lt f s)) (show 2 ≤ 4 by decide) (dR_mem 6 (by decide)) (pes_cons (pe_name (d := natD (rkept f s)) (by exact n8)) pes_nil) nm6 rfl) c_neS).eq (by rw [H.kept]; simp)) (fun h => by cases h) (fun _ => se_nil ⟨rfl, rfl⟩)) fun rf τ h => h) fun τ' h => ?_
  · obtain ⟨k, hk, rfl⟩ := rng0_mem hd
    rw [natOf_D]
    have nn5 : List.lookup ("letters" : Str) ((("listed" : Str), SV.dat (natD (rlisted f s))) :: τ₁) = some (.dat (strD letts)) := n5
    have nn6 : List.lookup ("units" : Str) ((("listed" : Str), SV.dat (natD (rlisted f s))) :: τ₁) = some (.dat (.list ((runits f s).map strD))) := n6
    refine ⟨decide ([92, 97 + k] ∈ runits f s), (pb_c (pe_catS (pe_strS [92]) (pe_idxStr (c := 97 + k) (l := letts) (pe_name (by exact visC_at nn5 (by rfl))) (pe_name (d := natD k) rfl) (Int.natCast_nonneg _) (by omega) (letts_at hk)) (by simp)) (pe_name (d := .list (((runits f s).map S).map .str)) (by rw [← runits_map]; exact visC_at nn6 (by rfl))) c_in_list).eq (by rw [inS]; rfl), fun hb => ⟨_, by rw [if_pos hb]; rfl, pe_powN (pe_lit 2) (pe_name (d := natD k) rfl) (by omega) (by decide)⟩, fun hb => by rw [hb]; rfl⟩
  · rw [sum_places fun k => decide ([92, 97 + k] ∈ runits f s)]
  · rw [sum_cast]; rfl
  subst h
  exact read_g hf hs H (by exact n3) (by exact n4) (by exact n7)
end Pm

end
section
open PySem PySem.Calls PyProof.Rows
set_option Elab.async false
set_option linter.unusedVariables false
set_option maxRecDepth 100000
namespace Pm


set_option maxHeartbeats 4000000 in
/-- from the letters on -/
theorem read_d {f s : Nat} (hf : f < 65536) (hs : s < 65536) (H : Plain f s) {prog w mg mb L a cd base A} {τ : Sto} (hτ : mid1 f s τ) :
    SE (jr prog w mg mb L a cd base A) τ ((dR 11).body.drop 10) PostR := by
  obtain ⟨m1, m2, m3, m4, m5⟩ := hτ
  refine se_go (P₁ := fun τ' => mid1 f s τ' ∧ τ'.lookup ("letters" : Str) = some (.dat (strD letts))) (S1.weak (s1_assign (pe_strS letts) (.inl fr) (.inr ⟨rfl, rfl, _, rfl⟩)) fun rf τ' h => ?_) fun τ₁ h => ?_
  · obtain ⟨rfl, rfl⟩ := h; exact ⟨rfl, ⟨by exact m1, by exact m2, by exact m3, by exact m4, by exact m5⟩, rfl⟩
  obtain ⟨⟨m1, m2, m3, m4, m5⟩, hl⟩ := h
  refine se_go (P₁ := fun τ' => mid1 f s τ' ∧ τ'.lookup ("letters" : Str) = some (.dat (strD letts)) ∧ τ'.lookup ("named" : Str) = some (.dat (strD (rnamed f s)))) (S1.weak (s1_assign ((pe_join0 (ls := (List.range 16).map fun k => [if (lbits f).getD k 0 = 1 then (rtext f s).getD k 0 else 97 + k]) (pe_strS [])
    ((pe_comp (fun d => some (strD [if (lbits f).getD (natOf d) 0 = 1 then (rtext f s).getD (natOf d) 0 else 97 + natOf d])) (pi_range1 (n := 16) (pe_lit 16)) ⟨rfl, rfl, rfl, rfl, rfl, rfl⟩ (by rw [rng_len]; decide) (fun C => tgt_name (.inl rfl)) (fun C Hh d hd => ?_)).eq ?_) ?_).eq (d' := strD (rnamed f s)) ?_) (.inl fr) (.inl rfl)) fun rf τ h => ?_) fun τ₂ h => ?_
  · obtain ⟨k, hk, rfl⟩ := rng0_mem hd
    rw [natOf_D]
    refine ⟨_, rfl, pe_ifexp (b := ((lbits f).getD k 0 == 1)) (pb_c (pe_idxList (d := natD ((lbits f).getD k 0)) (pe_name (d := .list ((lbits f).map natD)) (by exact visC_at m2 (by rfl))) (pe_name (d := natD k) rfl) (Int.natCast_nonneg _) (by omega) (natD_at (by rw [lbits_len]; exact hk))) (pe_lit 1) c_eqN) (fun hb => ?_) (fun hb => ?_)⟩
    · have hb' : (lbits f).getD k 0 = 1 := by simpa using hb
      rw [if_pos hb']
      exact pe_idxStr (l := rtext f s) (pe_name (by exact visC_at m3 (by rfl))) (pe_name (d := natD k) rfl) (Int.natCast_nonneg _) (by omega) (rtext_at hk)
    · have hb' : ¬ (lbits f).getD k 0 = 1 := by simpa using hb
      rw [if_neg hb']
      exact pe_idxStr (l := letts) (pe_name (by exact visC_at hl (by rfl))) (pe_name (d := natD k) rfl) (Int.natCast_nonneg _) (by omega) (letts_at hk)
  · rw [rng0 16 fun k => strD [if (lbits f).getD k 0 = 1 then (rtext f s).getD k 0 else 97 + k], map_strD]
  · rw [flat_map]; simp
  · rw [flat_map]; rfl
  · obtain ⟨rfl, rfl⟩ := h; exact ⟨rfl, ⟨by exact m1, by exact m2, by exact m3, by exact m4, by exact m5⟩, by exact hl, rfl⟩
  obtain ⟨⟨m1, m2, m3, m4, m5⟩, hl, hn⟩ := h
  refine se_go (P₁ := fun τ' => τ' = ((("units" : Str), SV.dat (.list ((runits f s).map strD))) :: τ₂)) (S1.weak (s1_assign ((pe_comp (fun d => some (snd d)) (pi_gen gs0 gr0 (show 1 ≤ 4 by decide) (dR_mem 0 (by decide)) (pe_call (fs_strip (rnamed f s) (by rw [rnamed_len]; decide) (Nat.le_trans (rnamed_strip f s) (by decide))) (show 3 ≤ 4 by decide) (dR_mem 1 (by decide)) (pes_cons (pe_name hn) pes_nil) nm1 rfl) nm0 rfl)
    ⟨rfl, rfl, rfl, rfl, rfl, rfl⟩ (by rw [List.length_map]; exact Nat.lt_of_le_of_lt (runits_len f s) (by decide)) (fun C => tgt_pair (.inl rfl) (.inl rfl) units_pair) (fun C Hh d hd => ?_)).eq (d' := .list ((runits f s).map strD)) ?_) (.inl fr) (.inr ⟨rfl, rfl, _, rfl⟩) (by rfl)) fun rf τ h => h) fun τ₃ h => ?_
  · obtain ⟨⟨q, u⟩, _, rfl⟩ := List.mem_map.mp hd
    exact ⟨_, rfl, (pe_name (d := strD u) rfl).scal rfl _⟩
  · rw [snd_units]; rfl
  subst h
  exact read_e hf hs H ⟨by exact m1, by exact m2, by exact m3, by exact m4, by exact m5⟩ (by exact hl) rfl
end Pm

end
section
open PySem PySem.Calls PyProof.Rows
set_option Elab.async false
set_option linter.unusedVariables false
set_option maxRecDepth 100000
namespace Pm

set_option maxHeartbeats 4000000 in
/-- from the numbers on -/
theorem read_c {f s : Nat} (hf : f < 65536) (hs : s < 65536) (H : Plain f s) {prog w mg mb L a cd base A} {τ : Sto} (hτ : mid1 f s τ ∧ τ.lookup ("slashes" : Str) = some (.dat (natD (f &&& s)))) :
    SE (jr prog w mg mb L a cd base A) τ ((dR 11).body.drop 6) PostR := by
  obtain ⟨hm, hsl⟩ := hτ
  refine se_go (s1_own (pe_list pes_nil) (by simp) (.inl rfl)) fun τ₂ h => ?_
  obtain ⟨p, rfl⟩ := h
  refine se_go (P₁ := fun τ => mid1 f s τ ∧ τ.lookup ("due" : Str) = some (.own p ((rdue f s).map unitD))) (s1_for (Pb := fun _ => False) (fun i τ => (mid1 f s τ ∧ τ.lookup ("slashes" : Str) = some (.dat (natD (f &&& s)))) ∧ τ.lookup ("due" : Str) = some (.own p (((List.range i).filterMap (dueAt f s)).map unitD)))
    (pi_range1 (n := 16) (pe_lit 16)) ⟨⟨by exact hm, by exact hsl⟩, rfl⟩ (tgt_name (.inl rfl)) (fun Hh i d τ hd hI => ?_) (fun τ hI => se_nil ⟨rfl, hI.1.1, by rw [rng_len] at hI; exact hI.2⟩) (fun τ h => h.elim)) fun τ hτ => ?_
  · obtain ⟨hi, rfl⟩ := rng_get hd
    obtain ⟨⟨⟨m1, m2, m3, m4, m5⟩, msl⟩, md⟩ := hI
    have hnat : (PyData.int (0 + (i : Int) * 1)) = natD i := by simp [natD]
    rw [hnat]
    generalize hσ : bindT _ (natD i) τ = σ₁
    have n1 : σ₁.lookup ("first" : Str) = some (.dat (natD f)) := by rw [← hσ]; exact m1
    have n2 : σ₁.lookup ("upper" : Str) = some (.dat (.list ((lbits f).map natD))) := by rw [← hσ]; exact m2
    have n3 : σ₁.lookup ("text" : Str) = some (.dat (strD (rtext f s))) := by rw [← hσ]; exact m3
    have n4 : σ₁.lookup ("taken" : Str) = some (.dat (natD (rtaken f s))) := by rw [← hσ]; exact m4
    have n5 : σ₁.lookup ("hidden" : Str) = some (.dat (natD (rhid f s))) := by rw [← hσ]; exact m5
    have n6 : σ₁.lookup ("slashes" : Str) = some (.dat (natD (f &&& s))) := by rw [← hσ]; exact msl
    have n7 : σ₁.lookup ("due" : Str) = some (.own p (((List.range i).filterMap (dueAt f s)).map unitD)) := by rw [← hσ]; exact md
    have n8 : σ₁.lookup ("k" : Str) = some (.dat (natD i)) := by rw [← hσ]; rfl
    have hlen : (((List.range i).filterMap (dueAt f s)).map unitD).length < 1000 := by
      have := List.length_filterMap_le (dueAt f s) (List.range i)
      simp at this ⊢; omega
    have hstep : ((List.range (i + 1)).filterMap (dueAt f s)).map unitD = ((List.range i).filterMap (dueAt f s)).map unitD ++ ((dueAt f s i).toList).map unitD := by
      rw [List.range_succ, List.filterMap_append, List.map_append]
      cases h : dueAt f s i <;> simp [h]
    refine se_one (s1_if (b := (rtaken f s / 2 ^ i % 2 == 1)) (pb_c (pe_modN (pe_divN (pe_name n4) (pe_powN (pe_lit 2) (pe_name n8) (by omega) (by decide)) (pow_ne i) (pow_small (by omega))) (pe_lit 2) (by decide)) (pe_lit 1) c_eqN) (fun hb => ?_) (fun hb => ?_))
    · have hb' : rtaken f s / 2 ^ i % 2 = 1 := by simpa using hb
      have hdu : dueAt f s i = some (i, [92, (rtext f s).getD i 0]) := by unfold dueAt; rw [if_pos hb']
      refine se_one (S1.weak (s1_append n7 (pe_tuple (ds := [.int (i : Int), .str (S [92, (rtext f s).getD i 0])]) (pes_cons ((pe_name n8).scal rfl .fresh) (pes_cons (pe_catS (pe_strS [92]) (pe_idxStr (c := (rtext f s).getD i 0) (pe_name n3) (pe_name n8) (Int.natCast_nonneg _) (by omega) (rtext_at hi)) (by simp)) pes_nil)) sz2) (.inl fr) hlen) fun rf τ h => ?_)
      obtain ⟨rfl, rfl⟩ := h
      exact ⟨⟨⟨by exact n1, by exact n2, by exact n3, by exact n4, by exact n5⟩, by exact n6⟩, by rw [lookup_cons_self, hstep, hdu]; rfl⟩
    · have hb' : ¬ rtaken f s / 2 ^ i % 2 = 1 := by simpa using hb
      refine se_one (s1_if (b := ((f &&& s) / 2 ^ i % 2 == 0 || i == 15)) (pb_or2 (pb_c (pe_modN (pe_divN (pe_name n6) (pe_powN (pe_lit 2) (pe_name n8) (by omega) (by decide)) (pow_ne i) (pow_small (by omega))) (pe_lit 2) (by decide)) (pe_lit 0) c_eqN) (fun _ => pb_c (pe_name n8) (pe_lit 15) c_eqN) rfl) (fun hq => ?_) (fun hq => ?_))
      · have hq' : (f &&& s) / 2 ^ i % 2 = 0 ∨ i = 15 := by simpa using hq
        have hdu : dueAt f s i = some (i, [(rtext f s).getD i 0]) := by unfold dueAt; rw [if_neg hb', if_pos hq']
        refine se_one (S1.weak (s1_append n7 (pe_tuple (ds := [.int (i : Int), .str (S [(rtext f s).getD i 0])]) (pes_cons ((pe_name n8).scal rfl .fresh) (pes_cons (pe_idxStr (c := (rtext f s).getD i 0) (pe_name n3) (pe_name n8) (Int.natCast_nonneg _) (by omega) (rtext_at hi)) pes_nil)) sz2) (.inl fr) hlen) fun rf τ h => ?_)
        obtain ⟨rfl, rfl⟩ := h
        exact ⟨⟨⟨by exact n1, by exact n2, by exact n3, by exact n4, by exact n5⟩, by exact n6⟩, by rw [lookup_cons_self, hstep, hdu]; rfl⟩
      · have hq' : ¬ ((f &&& s) / 2 ^ i % 2 = 0 ∨ i = 15) := by simpa using hq
        have hdu : dueAt f s i = none := by unfold dueAt; rw [if_neg hb', if_neg hq']
        exact se_nil ⟨⟨⟨n1, n2, n3, n4, n5⟩, n6⟩, by rw [hstep, hdu]; simpa using n7⟩
  · obtain ⟨⟨m1, m2, m3, m4, m5⟩, md⟩ := hτ
    have hsh : SeqAt.shaped (.list ((rdue f s).map unitD)) = true := shaped_units fun u hu => rdue_mem hu
    refine se_go (P₁ := fun τ' => τ' = τ) (S1.weak (s1_if (P := fun rf τ' => rf = .next ∧ τ' = τ) (b := false) (pb_c ((pe_listGen gs0 gr0 (show 3 ≤ 4 by decide) (dR_mem 0 (by decide)) (pe_name m3) (by have := escs_len (rtext f s) 0 false; rw [rtext_len] at this; show (escs 0 false (rtext f s)).length < 1000; omega) nm0 rfl).eq (d' := .list ((rdue f s).map unitD)) (by rw [H.due])) (pe_own md) (c_deep_ne hsh)) (fun h => by cases h) (fun _ => se_nil ⟨rfl, rfl⟩)) fun rf τ h => h) fun τ' h => ?_
    subst h
    have hsz : (strip (rtext f s)).length ≤ 1000000 := by rw [H.left]; unfold rleft; rw [List.length_map]; exact Nat.le_trans (List.length_filter_le _ _) (by simp)
    refine se_go (P₁ := fun τ'' => τ'' = τ') (S1.weak (s1_if (P := fun rf τ'' => rf = .next ∧ τ'' = τ') (b := false) ((pb_c (d₁ := strD (rleft f s)) (d₂ := strD (rleft f s)) ((pe_call (fs_strip (rtext f s) (by rw [rtext_len]; decide) hsz) (show 3 ≤ 4 by decide) (dR_mem 1 (by decide)) (pes_cons (pe_name m3) pes_nil) nm1 rfl).eq (by rw [H.left]))
      ((pe_join0 (ls := ((List.range 16).filter fun k => rhid f s / 2 ^ k % 2 == 0).map fun k => [(rtext f s).getD k 0]) (pe_strS []) ((pe_comp (fun d => if (rhid f s / 2 ^ natOf d % 2 == 0) then some (strD [(rtext f s).getD (natOf d) 0]) else none) (pi_range1 (n := 16) (pe_lit 16)) ⟨rfl, rfl, rfl, rfl, rfl, rfl⟩ (by rw [rng_len]; decide) (fun C => tgt_name (.inl rfl)) (fun C Hh d hd => ?_)).eq ?_) ?_).eq ?_) c_neS).eq (by simp)) (fun h => by cases h) (fun _ => se_nil ⟨rfl, rfl⟩)) fun rf τ h => h) fun τ'' h => ?_
    · obtain ⟨k, hk, rfl⟩ := rng0_mem hd
      rw [natOf_D]
      refine ⟨rhid f s / 2 ^ k % 2 == 0, pb_c (pe_modN (pe_divN (pe_name (d := natD (rhid f s)) (by exact visC_at m5 (by rfl))) (pe_powN (pe_lit 2) (pe_name (d := natD k) rfl) (by omega) (by decide)) (pow_ne k) (pow_small (by omega))) (pe_lit 2) (by decide)) (pe_lit 0) c_eqN, fun hb => ⟨_, by rw [if_pos hb], pe_idxStr (c := (rtext f s).getD k 0) (l := rtext f s) (pe_name (by exact visC_at m3 (by rfl))) (pe_name (d := natD k) rfl) (Int.natCast_nonneg _) (by omega) (rtext_at hk)⟩, fun hb => by rw [hb]; rfl⟩
    · rw [rng_filter (fun k => rhid f s / 2 ^ k % 2 == 0) (fun k => strD [(rtext f s).getD k 0]), map_strD]
    · rw [flat_map, List.length_map]; exact Nat.le_trans (List.length_filter_le _ _) (by simp)
    · rw [flat_map]; rfl
    subst h
    exact read_d hf hs H ⟨m1, m2, m3, m4, m5⟩

set_option maxHeartbeats 4000000 in
/-- from the texts on -/
theorem read_b {f s : Nat} (hf : f < 65536) (hs : s < 65536) (H : Plain f s) {prog w mg mb L a cd base A} {τ : Sto} (hτ : τ.lookup ("first" : Str) = some (.dat (natD f)) ∧ τ.lookup ("second" : Str) = some (.dat (natD s)) ∧ τ.lookup ("upper" : Str) = some (.dat (.list ((lbits f).map natD))) ∧ τ.lookup ("text" : Str) = some (.dat (strD (rtext f s)))) :
    SE (jr prog w mg mb L a cd base A) τ ((dR 11).body.drop 3) PostR := by
  obtain ⟨h1, h2, h3, h4⟩ := hτ
  refine se_go (s1_assign (pe_andN (pe_name h1) (pe_name h2)) (.inl fr) (.inl rfl)) fun τ₂ h => ?_
  subst h
  refine se_go (s1_assign (pe_call (fs_taken (f &&& s) (and_lt hf)) (show 1 ≤ 4 by decide) (dR_mem 9 (by decide)) (pes_cons (pe_name (d := natD (f &&& s)) rfl) pes_nil) nm9 rfl) (.inl fr) (.inl rfl)) fun τ₂ h => ?_
  subst h
  have hmk : f - (f &&& s) - ((f - (f &&& s)) &&& rtaken f s) < 2 ^ 17 := by omega
  refine se_go (P₁ := fun τ => mid1 f s τ ∧ τ.lookup ("slashes" : Str) = some (.dat (natD (f &&& s)))) (S1.weak (s1_assign (pe_call (fs_hidden _ hmk) (show 2 ≤ 4 by decide) (dR_mem 10 (by decide)) (pes_cons (pe_subN (pe_subN (pe_name (d := natD f) (by exact h1)) (pe_name (d := natD (f &&& s)) rfl) Nat.and_le_left) (pe_andN (pe_subN (pe_name (d := natD f) (by exact h1)) (pe_name (d := natD (f &&& s)) rfl) Nat.and_le_left) (pe_name (d := natD (rtaken f s)) rfl)) Nat.and_le_left) pes_nil) nm10 rfl) (.inl fr) (.inr ⟨rfl, rfl, _, rfl⟩)) fun rf τ h => ?_) fun τ₂ hτ₂ => ?_
  · obtain ⟨rfl, rfl⟩ := h; exact ⟨rfl, ⟨by exact h1, by exact h3, by exact h4, rfl, rfl⟩, rfl⟩
  exact read_c hf hs H hτ₂

set_option maxHeartbeats 4000000 in
theorem fs_read (f s : Nat) (hf : f < 65536) (hs : s < 65536) (H : Plain f s) : FS FSS CSS (dR 11) 5 [natD f, natD s] (.bool true) := by
  refine fs_intro ["first", "second"] (fun prog w mg mb L a cd base A => ?_) (bind2 fun _ _ _ _ _ => by rfl)
  refine se_go (s1_assign (pe_call (fs_bits f) (show 3 ≤ 4 by decide) (dR_mem 7 (by decide)) (pes_cons (pe_name (d := natD f) rfl) pes_nil) nm7 rfl) (.inl fr) (.inr ⟨rfl, rfl, _, rfl⟩)) fun τ h => ?_
  subst h
  refine se_go (s1_assign (pe_call (fs_bits s) (show 3 ≤ 4 by decide) (dR_mem 7 (by decide)) (pes_cons (pe_name (d := natD s) rfl) pes_nil) nm7 rfl) (.inl fr) (.inr ⟨rfl, rfl, _, rfl⟩)) fun τ h => ?_
  subst h
  refine se_go (P₁ := fun τ => τ.lookup ("first" : Str) = some (.dat (natD f)) ∧ τ.lookup ("second" : Str) = some (.dat (natD s)) ∧ τ.lookup ("upper" : Str) = some (.dat (.list ((lbits f).map natD))) ∧ τ.lookup ("text" : Str) = some (.dat (strD (rtext f s)))) (S1.weak (s1_assign ((pe_join0 (ls := (List.range 16).map fun k => [(rtext f s).getD k 0]) (pe_strS []) ((pe_comp (fun d => some (strD [(rtext f s).getD (natOf d) 0])) (pi_range1 (n := 16) (pe_lit 16)) ⟨rfl, rfl, rfl, rfl, rfl, rfl⟩ (by rw [rng_len]; decide) (fun C => tgt_name (.inl rfl)) (fun C H d hd => ?_)).eq ?_) ?_).eq (d' := strD (rtext f s)) ?_) (.inl fr) (.inr ⟨rfl, rfl, _, rfl⟩)) fun rf τ h => ?_) fun τ hτ => ?_
  · obtain ⟨k, hk, rfl⟩ := rng0_mem hd
    rw [natOf_D]
    have hu := lbits_le f k; have hl := lbits_le s k
    refine ⟨_, rfl, (pe_idxStr (c := [41, 40, 34, 92].getD (2 * (lbits f).getD k 0 + (lbits s).getD k 0) 0) (pe_strS [41, 40, 34, 92]) (pe_addN (pe_mulN (pe_lit 2) ((pe_idxList (d := natD ((lbits f).getD k 0)) (pe_name (d := .list ((lbits f).map natD)) rfl) (pe_name (d := natD k) rfl) (Int.natCast_nonneg _) (by omega) (natD_at (by rw [lbits_len]; exact hk)))) (by omega))
      (pe_idxList (d := natD ((lbits s).getD k 0)) (pe_name (d := .list ((lbits s).map natD)) rfl) (pe_name (d := natD k) rfl) (Int.natCast_nonneg _) (by omega) (natD_at (by rw [lbits_len]; exact hk)))) (Int.natCast_nonneg _) (by omega) (at_getD (by show 2 * _ + _ < 4; omega))).eq ?_⟩
    have : (rtext f s).getD k 0 = [41, 40, 34, 92].getD (2 * (lbits f).getD k 0 + (lbits s).getD k 0) 0 := by
      unfold rtext; rw [List.getD_eq_getElem?_getD, List.getElem?_map, List.getElem?_range hk]; rfl
    rw [this]
  · rw [rng0 16 fun k => strD [(rtext f s).getD k 0], map_strD]
  · rw [flat_map]; simp
  · have e : (List.range 16).map (fun k => (rtext f s).getD k 0) = rtext f s := by
      apply List.ext_getElem
      · simp [rtext_len]
      · intro k h1 h2; simp [List.getD_eq_getElem?_getD, List.getElem?_eq_getElem h2]
    rw [flat_map, e]
  · obtain ⟨rfl, rfl⟩ := h; exact ⟨rfl, rfl, rfl, rfl, rfl⟩
  exact read_b hf hs H hτ
end Pm

end
section
open PySem PySem.Calls PyProof.Rows
set_option Elab.async false
set_option linter.unusedVariables false
set_option maxRecDepth 100000
namespace Pm

def pickI (ns : List Int) (lo hi st : Option Int) : List Int := (sliceRange (sliceBounds lo hi st ns.length).1 (sliceBounds lo hi st ns.length).2.1 (sliceBounds lo hi st ns.length).2.2).filterMap (ns[·]?)
theorem sliceD_int (ns : List Int) (lo hi st : Option Int) : sliceD (ns.map .int) lo hi st = (pickI ns lo hi st).map .int := by
  unfold sliceD pickI
  rw [List.length_map, List.map_filterMap]
  congr 1; funext i; rw [List.getElem?_map]
def modeAt (ns : List Int) (st : Nat) (k : Nat) : Nat := (((st : Int) + (pickI ns (some (k : Int)) none (some 4)).sum).fmod 65536).toNat
theorem modeAt_lt (ns : List Int) (st k : Nat) : modeAt ns st k < 65536 := by
  unfold modeAt
  have h1 := Int.fmod_lt_of_pos ((st : Int) + (pickI ns (some (k : Int)) none (some 4)).sum) (show (0 : Int) < 65536 by decide)
  omega
def starts : List Nat := [33262, 18275, 52858, 41585]
def modeD (ns : List Int) : PyData → Option PyData
  | .tuple [.int k, .int st] => some (natD (modeAt ns st.toNat k.toNat))
  | _ => none
def modesOf (ns : List Int) : List Nat := [modeAt ns 33262 0, modeAt ns 18275 1, modeAt ns 52858 2, modeAt ns 41585 3]

set_option maxHeartbeats 4000000 in
theorem fs_law (hrow : ∀ m, m < 65536 → fmode m = lrow m) (hpl : ∀ f s, f < 65536 → s < 65536 → Plain f s) (ns : List Int) (hn : ns.length ≤ 1000) : FS FSS CSS (dR 12) 6 [.list (ns.map .int)] (.bool true) := by
  refine fs_intro ["script"] (fun prog w mg mb L a cd base A => ?_) (bind1 fun _ _ _ _ => by rfl)
  refine se_go (s1_assign (pe_tuple (ds := starts.map natD) (pes_cons (pe_lit 33262) (pes_cons (pe_lit 18275) (pes_cons (pe_lit 52858) (pes_cons (pe_lit 41585) pes_nil)))) sz4) (.inl fr) (.inl rfl)) fun τ₁ h => ?_
  subst h
  refine se_go (P₁ := fun τ' => τ'.lookup ("modes" : Str) = some (.dat (.list ((modesOf ns).map natD)))) (S1.weak (s1_assignComp (modeD ns) (pi_enum (pe_name (d := .tuple (starts.map natD)) rfl) ff) ⟨rfl, rfl, rfl, rfl, rfl, rfl⟩ (by show 4 < 1000; decide) (fun C => tgt_pair (.inl rfl) (.inl rfl) enumD_pair) (fun C Hh d hd => ?_) rfl) fun rf τ' h => ?_) fun τ₂ hm => ?_
  · obtain ⟨i, hi⟩ := List.mem_iff_getElem?.mp hd
    obtain ⟨x, hx, rfl⟩ := enumD_get hi
    have hst : ∃ st : Nat, x = natD st := by
      rw [List.getElem?_map] at hx
      cases h : starts[i]? with
      | none => rw [h] at hx; cases hx
      | some q => rw [h] at hx; cases hx; exact ⟨q, rfl⟩
    obtain ⟨st, rfl⟩ := hst
    refine ⟨natD (modeAt ns st i), by simp [modeD, natD], ?_⟩
    have hsl : ∀ d ∈ ns.map PyData.int, scal d = true := fun d hd => by obtain ⟨x, _, rfl⟩ := List.mem_map.mp hd; rfl
    refine (pe_fmod (pe_add (pe_name (d := natD st) rfl) (pe_sum (ns := pickI ns (some (i : Int)) none (some 4)) ((pe_sliceList (pe_name (d := .list (ns.map .int)) rfl) (psl_some (pe_name (d := natD i) rfl)) psl_none (psl_some (pe_int (i := 4))) (by decide) (by rw [List.length_map]; omega) hsl).eq (by rw [sliceD_int])))) (pe_int (i := 65536)) (by decide)).eq ?_
    unfold modeAt natD
    congr 1
    have h1 := Int.fmod_nonneg_of_pos ((st : Int) + (pickI ns (some (i : Int)) none (some 4)).sum) (show (0 : Int) < 65536 by decide)
    omega
  · obtain ⟨rfl, rfl⟩ := h
    exact ⟨rfl, rfl⟩
  have hmem : ∀ m ∈ modesOf ns, m < 65536 := fun m hm => by
    simp only [modesOf, List.mem_cons, List.not_mem_nil, or_false] at hm
    rcases hm with rfl | rfl | rfl | rfl <;> exact modeAt_lt _ _ _
  have hsh : SeqAt.shaped (.list ((modesOf ns).map fun m => strD (lrow m))) = true := shaped_list (fun d hd => by obtain ⟨m, _, rfl⟩ := List.mem_map.mp hd; exact lay_str fun c hc => lrow_lt hc) fun d hd => by
    obtain ⟨m, _, rfl⟩ := List.mem_map.mp hd; simp [PyData.depth]
  have hcomp : ∀ (F : Nat → PyData), ((modesOf ns).map natD).filterMap (fun d => some (F (natOf d))) = (modesOf ns).map F := fun F => by
    rw [List.filterMap_map]
    have : ((fun d => some (F (natOf d))) ∘ natD) = fun k => some (F k) := by funext k; simp [natOf_D]
    rw [this]; simp
  refine se_go (P₁ := fun τ' => τ' = τ₂) (S1.weak (s1_if (P := fun rf τ' => rf = .next ∧ τ' = τ₂) (b := false) (pb_c
    ((pe_comp (fun d => some (strD (fmode (natOf d)))) (pi_list (pe_name hm) ff) ⟨rfl, rfl, rfl, rfl, rfl, rfl⟩ (by show 4 < 1000; decide) (fun C => tgt_name (.inl rfl)) (fun C Hh d hd => ?_)).eq (d' := .list ((modesOf ns).map fun m => strD (lrow m))) ?_)
    ((pe_comp (fun d => some (strD (lrow (natOf d)))) (pi_list (pe_name hm) ff) ⟨rfl, rfl, rfl, rfl, rfl, rfl⟩ (by show 4 < 1000; decide) (fun C => tgt_name (.inl rfl)) (fun C Hh d hd => ?_)).eq (d' := .list ((modesOf ns).map fun m => strD (lrow m))) ?_) (c_deep_ne hsh)) (fun h => by cases h) (fun _ => se_nil ⟨rfl, rfl⟩)) fun rf τ h => h) fun τ' h => ?_
  · obtain ⟨m, hm', rfl⟩ := List.mem_map.mp hd
    rw [natOf_D]
    exact ⟨_, rfl, pe_call (fs_filemode m) (show 2 ≤ 5 by decide) (dR_mem 5 (by decide)) (pes_cons (pe_name (d := natD m) rfl) pes_nil) nm5 rfl⟩
  · rw [hcomp fun m => strD (fmode m)]
    congr 1
    exact List.map_congr_left fun m hm' => by rw [hrow m (hmem m hm')]
  · obtain ⟨m, hm', rfl⟩ := List.mem_map.mp hd
    rw [natOf_D]
    exact ⟨_, rfl, pe_call (fs_row m (hmem m hm')) (show 2 ≤ 5 by decide) (dR_mem 6 (by decide)) (pes_cons (pe_name (d := natD m) rfl) pes_nil) nm6 rfl⟩
  · rw [hcomp fun m => strD (lrow m)]
  subst h
  refine se_cons (s1_return (pe_andB (b := true) (b₁ := true) (b₂ := true) (pe_call (fs_read _ _ (modeAt_lt ns 33262 0) (modeAt_lt ns 18275 1) (hpl _ _ (modeAt_lt _ _ _) (modeAt_lt _ _ _))) (show 5 ≤ 5 by decide) (dR_mem 11 (by decide)) (pes_cons (pe_idxList (d := natD (modeAt ns 33262 0)) (pe_name hm) ((pe_lit 0).scal rfl .frozen) (by decide) (by decide) rfl) (pes_cons (pe_idxList (d := natD (modeAt ns 18275 1)) (pe_name hm) (pe_lit 1) (by decide) (by decide) rfl) pes_nil)) nm11 rfl)
    (fun _ => pe_call (fs_read _ _ (modeAt_lt ns 52858 2) (modeAt_lt ns 41585 3) (hpl _ _ (modeAt_lt _ _ _) (modeAt_lt _ _ _))) (show 5 ≤ 5 by decide) (dR_mem 11 (by decide)) (pes_cons (pe_idxList (d := natD (modeAt ns 52858 2)) (pe_name hm) (pe_lit 2) (by decide) (by decide) rfl) (pes_cons (pe_idxList (d := natD (modeAt ns 41585 3)) (pe_name hm) (pe_lit 3) (by decide) (by decide) rfl) pes_nil)) nm11 rfl) rfl) (.inl rfl)) (fun τ h => by cases h.1) fun rf τ _ h => .inl h.1
end Pm

end
section
open PySem PySem.W PyProof.Rows
set_option Elab.async false
set_option maxRecDepth 100000
set_option maxHeartbeats 8000000
namespace Pm
open_top hd01 for PySem.Challenge.rw_pm0026_01
end Pm

end
section
open PySem PySem.W PyProof.Rows
set_option Elab.async false
set_option maxRecDepth 100000
set_option maxHeartbeats 8000000
namespace Pm
theorem view_recs : recsOf hd01.view_39 = FSS := by rfl

theorem free_names : ∀ x ∈ ([("enumerate" : Str), "list", "len", "sum", "range"] : List Str), x ∉ startupNames ∧ x ∉ (["_filemode_table"] : List Str) ∧ x ∉ (recsOf hd01.view_39).map (·.name) ∧ x ∉ (litsOf hd01.view_39).map (·.1) ∧ x ∉ (clssOf hd01.view_39 ["_filemode_table"]).map (·.name) := by decide +kernel
theorem rvs_ints {Z : Addr → Prop} {h : Heap} : ∀ {vs : List Value} {ns : List Int}, IntsAre vs ns → RVs Z h (ns.map .int) vs
  | _, _, .nil => .nil
  | _, _, .cons n t r => .cons (RV.int_iff.mpr ⟨t, rfl⟩) (rvs_ints r)
mutual
def tupOnly : PyData → Bool
  | .int _ => true
  | .str _ => true
  | .tuple xs => tupAll xs
  | _ => false
def tupAll : List PyData → Bool
  | [] => true
  | x :: xs => tupOnly x && tupAll xs
end
mutual
theorem rv_of_reads {R : WRecords} {cl : Str → Option Addr} {h : Heap} : ∀ (d : PyData) {v : Value} {as : List Addr}, tupOnly d = true → ReadsW R cl h v (ofPy d) as → RV Nowhere h d v
  | .int i, _, _, _, r => by
    simp only [ofPy] at r; cases r; exact RV.int_iff.mpr ⟨_, rfl⟩
  | .str x, _, _, _, r => by
    simp only [ofPy] at r; cases r; exact RV.str_iff.mpr ⟨_, rfl⟩
  | .tuple xs, _, _, ht, r => by
    simp only [ofPy] at r
    cases r with
    | tuple ho hc hd hr =>
      exact RV.tuple_iff.mpr ⟨_, _, rfl, fun q => q, ⟨_, ho, hc, _, hd⟩, rvs_of_reads xs (by simpa [tupOnly] using ht) hr⟩
  | .none, _, _, ht, _ => by simp [tupOnly] at ht
  | .bool _, _, _, ht, _ => by simp [tupOnly] at ht
  | .list _, _, _, ht, _ => by simp [tupOnly] at ht
  | .dict _, _, _, ht, _ => by simp [tupOnly] at ht
theorem rvs_of_reads {R : WRecords} {cl : Str → Option Addr} {h : Heap} : ∀ (ds : List PyData) {vs : List Value} {as : List Addr}, tupAll ds = true → ReadsAllW R cl h vs (ofPys ds) as → RVs Nowhere h ds vs
  | [], _, _, _, r => by
    simp only [ofPys] at r; cases r; exact .nil
  | d :: ds, _, _, ht, r => by
    simp only [ofPys] at r
    have ht' : tupOnly d = true ∧ tupAll ds = true := by simpa [tupAll] using ht
    cases r with
    | cons h1 h2 => exact .cons (rv_of_reads d ht'.1 h1) (rvs_of_reads ds ht'.2 h2)
end

set_option pp.proofs false
theorem joined (hrow : ∀ m, m < 65536 → fmode m = lrow m) (hpl : ∀ f s, f < 65536 → s < 65536 → Plain f s) : PySem.Challenge.rw_pm0026_01.Holds := hd01 (by
  intro w s₀ s₁ mg mb G Y fa o pm cd doc dV kV ho hd hcd hD hmg hg args vals as hpre hlay hrd hwl hlo
  have T := G.T
  have V := G.X.2
  clear Y G
  have gl : GL mg mb FSS CSS s₁.heap := by
    refine ⟨T.g, T.b, T.nolimit, fun d hd => T.fn d (by rw [view_recs]; exact hd), fun p hp => ?_, fun x hx => ?_, T.builtins⟩
    · rw [List.mem_singleton.mp hp]
      obtain ⟨v, h1, h2⟩ := V.val _ (List.mem_cons_self ..)
      exact ⟨v, h1, rv_of_reads tableD (by decide +kernel) h2⟩
    · obtain ⟨q1, q2, q3, q4, q5⟩ := free_names x hx
      exact T.free x q1 q2 q3 q4 q5
  obtain ⟨a', o', pm', cd', doc', e1, e2, e3, e4⟩ := gl.fn (dR 12) (dR_mem 12 (by decide))
  have ea : a' = fa := by
    have := e1.symm.trans (show mg (dR 12).name = some (.ref fa) from hmg)
    cases this; rfl
  subst ea
  clear ho hd hcd hD hmg
  wrow_args hpre hlay hrd hwl hlo
  rename_i ns _ _ _ _ _ _ _ sa its _ hL ra w1 r0 hI _ hlen _
  have hobj : s₁.heap.PlainList sa its.toArray := by
    simp only [ofPy] at w1
    cases w1 with
    | list h1 h2 =>
      obtain ⟨ol, hol, _, n, hdl⟩ := hL
      rw [h1] at hol; cases hol
      simp only [Data.seq.injEq] at hdl
      exact ⟨_, by rw [h1]; rw [hdl.1]⟩
  refine fs_law hrow hpl ns (by omega) _ w mg mb callerA ⟨rfl, by decide, by decide⟩ s₁ gl a' o' pm' cd' doc' e2 e3 e4 [.ref sa] (.cons (RV.list_iff.mpr ⟨sa, its.toArray, rfl, fun q => q, hobj, rvs_ints hI⟩) .nil) _ _ fun v s' x hv => ?_
  obtain rfl := RV.bool_iff.mp hv
  refine ⟨.inl ⟨_, .bool true, [], rfl, fun _ => rfl, .bool true, ?_, ?_⟩, .of_keep fun b o e => x.get e, x.os, x.bare (.of_eq hg)⟩
  · have h2 : ∀ e : WCtx, e.res = some (.bool true) → WTm.holds [] (.eq .res (.lit (.bool true))) e = true := fun e he => by
      unfold WTm.holds
      rw [w_eq_bool (k := true) (l := true) (by simp [WTm.value, he]) (by simp [WTm.value])]; rfl
    exact Bool.and_eq_true_iff.mpr ⟨rfl, h2 _ rfl⟩
  · intro _; exact ⟨List.nodup_nil, by simp⟩)
end Pm

end
section
open PySem PySem.Calls PyProof.Rows
set_option Elab.async false
set_option linter.unusedVariables false
set_option maxRecDepth 100000
namespace Pm

theorem and_low (m bit : Nat) (h : 4095 &&& bit = bit) : m &&& bit = (m % 4096) &&& bit := by
  have e : m % 4096 = m &&& 4095 := (Nat.and_two_pow_sub_one_eq_mod m 12).symm
  rw [e, Nat.and_assoc, h]
theorem and_4095 (m : Nat) : m &&& 4095 = m % 4096 := Nat.and_two_pow_sub_one_eq_mod m 12
theorem and_65535 (m : Nat) : m &&& 65535 = m % 65536 := Nat.and_two_pow_sub_one_eq_mod m 16
theorem and_high (m : Nat) : m &&& 61440 = m % 65536 / 4096 * 4096 := by
  have h := nat_or_add_and (m &&& 61440) (m &&& 4095)
  have h1 : (m &&& 61440) ||| (m &&& 4095) = m &&& 65535 := by rw [← Nat.and_or_distrib_left]; rfl
  have h2 : (m &&& 61440) &&& (m &&& 4095) = 0 := by
    have e : (m &&& 61440) &&& (m &&& 4095) = m &&& (m &&& (61440 &&& 4095)) := by
      rw [Nat.and_assoc, ← Nat.and_assoc 61440 m 4095, Nat.and_comm 61440 m, Nat.and_assoc]
    rw [e]; simp
  rw [h1, h2, and_4095, and_65535] at h
  omega

def lowRow (r : Nat) : List Nat := (tables.zipIdx.drop 1).map fun p => pick p.2 r p.1
theorem pick_low (m i : Nat) (hi : i ≠ 0) (t : List (Nat × Nat)) (ht : ∀ p ∈ t, 4095 &&& p.1 = p.1) : pick i m t = pick i (m % 4096) t := by
  have : ∀ (t : List (Nat × Nat)), (∀ p ∈ t, 4095 &&& p.1 = p.1) → t.find? (fun p => fits i m p.1) = t.find? (fun p => fits i (m % 4096) p.1) := by
    intro t
    induction t with
    | nil => intro _; rfl
    | cons p r ih =>
      intro h
      have e : fits i m p.1 = fits i (m % 4096) p.1 := by
        unfold fits
        rw [if_neg hi, if_neg hi, ← and_low m p.1 (h p (by simp))]
      rw [List.find?_cons, List.find?_cons, e, ih fun q hq => h q (by simp [hq])]
  unfold pick; rw [this t ht]
theorem fmode_low (m : Nat) : fmode m = pick 0 m (tables.getD 0 []) :: lowRow (m % 4096) := by
  have h : ∀ p ∈ tables.zipIdx.drop 1, p.2 ≠ 0 ∧ ∀ q ∈ p.1, 4095 &&& q.1 = q.1 := by decide +kernel
  have e : tables.zipIdx = (tables.getD 0 [], 0) :: tables.zipIdx.drop 1 := by decide +kernel
  have e2 : fmode m = ((tables.getD 0 [], 0) :: tables.zipIdx.drop 1).map fun p => pick p.2 m p.1 := congrArg (fun l => List.map (fun p : List (Nat × Nat) × Nat => pick p.2 m p.1) l) e
  rw [e2, List.map_cons]
  congr 1
  exact List.map_congr_left fun p hp => pick_low m p.2 (h p hp).1 p.1 (h p hp).2
theorem low_div (m a b : Nat) (h : a * b = 4096) (c : Nat) (hc : c ∣ b) : m / a % c = m % 4096 / a % c := by
  rw [← h, Nat.mod_mul_right_div_self, Nat.mod_mod_of_dvd _ hc]
theorem seg_low (m k : Nat) (hk : k < 3) : seg m k = seg (m % 4096) k := by
  have h1 : m / 8 ^ k % 8 = m % 4096 / 8 ^ k % 8 := low_div m (8 ^ k) (4096 / 8 ^ k) ((by decide : ∀ k, k < 3 → 8 ^ k * (4096 / 8 ^ k) = 4096) k hk) 8 ((by decide : ∀ k, k < 3 → 8 ∣ 4096 / 8 ^ k) k hk)
  have h2 : m / 2 ^ (9 + k) % 2 = m % 4096 / 2 ^ (9 + k) % 2 := low_div m (2 ^ (9 + k)) (4096 / 2 ^ (9 + k)) ((by decide : ∀ k, k < 3 → 2 ^ (9 + k) * (4096 / 2 ^ (9 + k)) = 4096) k hk) 2 ((by decide : ∀ k, k < 3 → 2 ∣ 4096 / 2 ^ (9 + k)) k hk)
  unfold seg; rw [h1, h2]
theorem kind_row (m : Nat) (hm : m < 65536) : pick 0 m (tables.getD 0 []) = kinds.getD (m / 4096) 0 := by
  have h : ∀ a, a < 16 → pick 0 (a * 4096) (tables.getD 0 []) = kinds.getD a 0 := by decide +kernel
  have e : pick 0 m (tables.getD 0 []) = pick 0 (m / 4096 * 4096) (tables.getD 0 []) := by
    have e1 : m &&& 61440 = (m / 4096 * 4096) &&& 61440 := by rw [and_high, and_high, Nat.mod_eq_of_lt hm, Nat.mod_eq_of_lt (Nat.lt_of_le_of_lt (Nat.div_mul_le_self m 4096) hm), Nat.mul_div_cancel _ (by decide)]
    unfold pick fits
    simp only [if_pos, e1]
  rw [e, h _ (by omega)]
/-- three rights and their bit, one table after the other -/
def tri (k : Nat) : List (Nat × List (Nat × Nat)) := [(7 - 3 * k, (tables.getD (7 - 3 * k) [])), (8 - 3 * k, (tables.getD (8 - 3 * k) [])), (9 - 3 * k, (tables.getD (9 - 3 * k) []))]
theorem lowRow_tri (r : Nat) : lowRow r = ((tri 2).map fun p => pick p.1 r p.2) ++ ((tri 1).map fun p => pick p.1 r p.2) ++ ((tri 0).map fun p => pick p.1 r p.2) := by
  have e : (tables.zipIdx.drop 1).map (fun p => (p.2, p.1)) = tri 2 ++ tri 1 ++ tri 0 := by decide +kernel
  have e2 : lowRow r = ((tables.zipIdx.drop 1).map (fun p => (p.2, p.1))).map fun p => pick p.1 r p.2 := by unfold lowRow; rw [List.map_map]; rfl
  rw [e2, e, List.map_append, List.map_append]
theorem and_mask (m msk bit : Nat) (h : msk &&& bit = bit) : m &&& bit = (m &&& msk) &&& bit := by rw [Nat.and_assoc, h]
theorem pick_mask (m msk i : Nat) (hi : i ≠ 0) (t : List (Nat × Nat)) (ht : ∀ p ∈ t, msk &&& p.1 = p.1) : pick i m t = pick i (m &&& msk) t := by
  have : ∀ (t : List (Nat × Nat)), (∀ p ∈ t, msk &&& p.1 = p.1) → t.find? (fun p => fits i m p.1) = t.find? (fun p => fits i (m &&& msk) p.1) := by
    intro t
    induction t with
    | nil => intro _; rfl
    | cons p r ih =>
      intro h
      have e : fits i m p.1 = fits i (m &&& msk) p.1 := by
        unfold fits
        rw [if_neg hi, if_neg hi, ← and_mask m msk p.1 (h p (by simp))]
      rw [List.find?_cons, List.find?_cons, e, ih fun q hq => h q (by simp [hq])]
  unfold pick; rw [this t ht]
def rmsk (k : Nat) : Nat := 7 * 8 ^ k + 2 ^ (9 + k)
def rval (k v : Nat) : Nat := v % 8 * 8 ^ k + v / 8 * 2 ^ (9 + k)
theorem msk_all : ∀ k, k < 3 → (List.range 4096).all (fun r => r &&& rmsk k == rval k (r / 8 ^ k % 8 + 8 * (r / 2 ^ (9 + k) % 2))) = true := by decide +kernel
theorem tri_all : ∀ k, k < 3 → ∀ v, v < 16 → ((tri k).map fun p => pick p.1 (rval k v) p.2) = seg (rval k v) k := by decide +kernel
theorem tri_mask : ∀ k, k < 3 → ∀ p ∈ tri k, p.1 ≠ 0 ∧ ∀ q ∈ p.2, rmsk k &&& q.1 = q.1 := by decide +kernel
theorem rval_div : ∀ k, k < 3 → ∀ v, v < 16 → rval k v / 8 ^ k % 8 = v % 8 ∧ rval k v / 2 ^ (9 + k) % 2 = v / 8 := by decide +kernel
theorem two_of (x y : Nat) (hx : x < 8) (hy : y < 2) : x + 8 * y < 16 ∧ (x + 8 * y) % 8 = x ∧ (x + 8 * y) / 8 = y :=
  ⟨Nat.lt_of_lt_of_le (Nat.add_lt_add_right hx _) (show 8 + 8 * y ≤ 8 * 2 from Nat.add_comm 8 (8 * y) ▸ Nat.mul_le_mul_left 8 (Nat.succ_le_of_lt hy)), by rw [Nat.add_mul_mod_self_left, Nat.mod_eq_of_lt hx], by rw [Nat.add_mul_div_left _ _ (by decide), Nat.div_eq_of_lt hx, Nat.zero_add]⟩
theorem rval_seg (r k : Nat) (hk : k < 3) (hr : r < 4096) : seg (rval k (r / 8 ^ k % 8 + 8 * (r / 2 ^ (9 + k) % 2))) k = seg r k := by
  obtain ⟨h0, h1, h2⟩ := two_of (r / 8 ^ k % 8) (r / 2 ^ (9 + k) % 2) (Nat.mod_lt _ (by decide)) (Nat.mod_lt _ (by decide))
  obtain ⟨g1, g2⟩ := rval_div k hk _ h0
  rw [h1] at g1; rw [h2] at g2
  unfold seg
  rw [g1, g2]
theorem tri_row (r k : Nat) (hk : k < 3) (hr : r < 4096) : ((tri k).map fun p => pick p.1 r p.2) = seg r k := by
  have hm : r &&& rmsk k = rval k (r / 8 ^ k % 8 + 8 * (r / 2 ^ (9 + k) % 2)) := beq_iff_eq.mp (List.all_eq_true.mp (msk_all k hk) r (List.mem_range.mpr hr))
  rw [← rval_seg r k hk hr, ← tri_all k hk _ (two_of _ _ (Nat.mod_lt _ (by decide)) (Nat.mod_lt _ (by decide))).1, ← hm]
  exact List.map_congr_left fun p hp => pick_mask r (rmsk k) p.1 (tri_mask k hk p hp).1 p.2 (tri_mask k hk p hp).2
theorem fmode_row (m : Nat) (hm : m < 65536) : fmode m = lrow m := by
  rw [fmode_low]
  unfold lrow
  rw [seg_low m 2 (by decide), seg_low m 1 (by decide), seg_low m 0 (by decide), kind_row m hm]
  have hr : m % 4096 < 4096 := Nat.mod_lt _ (by decide)
  have h' : lowRow (m % 4096) = seg (m % 4096) 2 ++ seg (m % 4096) 1 ++ seg (m % 4096) 0 := by
    rw [lowRow_tri, tri_row _ 2 (by decide) hr, tri_row _ 1 (by decide) hr, tri_row _ 0 (by decide) hr]
  rw [h']; simp
end Pm

end
section
open PySem PySem.Calls PyProof.Rows
set_option Elab.async false
set_option linter.unusedVariables false
set_option maxRecDepth 100000
namespace Pm
def maj (a b c : Bool) : Bool := (a && b) || (a && c) || (b && c)
/-- the carry into a place -/
def car (a b : Nat → Bool) (c : Bool) : Nat → Bool
  | 0 => c
  | k + 1 => maj (a k) (b k) (car a b c k)
theorem car_succ (a b : Nat → Bool) (c : Bool) : ∀ k, car a b c (k + 1) = car (fun i => a (i + 1)) (fun i => b (i + 1)) (maj (a 0) (b 0) c) k
  | 0 => rfl
  | k + 1 => by
    show maj (a (k + 1)) (b (k + 1)) (car a b c (k + 1)) = maj (a (k + 1)) (b (k + 1)) _
    rw [car_succ a b c k]
theorem bool_add : ∀ x y c : Bool, x.toNat + y.toNat + c.toNat = 2 * (maj x y c).toNat + (x ^^ y ^^ c).toNat := by decide
theorem half_of (m : Nat) (z : Bool) : decide ((2 * m + z.toNat) % 2 = 1) = z ∧ (2 * m + z.toNat) / 2 = m := by
  cases z with
  | false => exact ⟨by rw [show 2 * m + false.toNat = 2 * m from rfl, Nat.mul_mod_right]; rfl, Nat.mul_div_cancel_left m (by decide)⟩
  | true => exact ⟨by rw [Nat.mul_add_mod]; rfl, by rw [Nat.mul_add_div (by decide)]; rfl⟩
theorem two_part (a : Nat) : a = 2 * (a / 2) + (decide (a % 2 = 1)).toNat := by
  have h := (Nat.div_add_mod a 2).symm
  rcases Nat.mod_two_eq_zero_or_one a with e | e
  · rw [e] at h; rw [e]; exact h
  · rw [e] at h; rw [e]; exact h
theorem par_add (a b : Nat) (c : Bool) : (decide ((a + b + c.toNat) % 2 = 1)) = (decide (a % 2 = 1) ^^ decide (b % 2 = 1) ^^ c) ∧ (a + b + c.toNat) / 2 = a / 2 + b / 2 + (maj (decide (a % 2 = 1)) (decide (b % 2 = 1)) c).toNat := by
  have ha := two_part a
  have hb := two_part b
  generalize decide (a % 2 = 1) = x at *
  generalize decide (b % 2 = 1) = y at *
  generalize a / 2 = u at *
  generalize b / 2 = v at *
  subst ha; subst hb
  have e : 2 * u + x.toNat + (2 * v + y.toNat) + c.toNat = 2 * (u + v + (maj x y c).toNat) + (x ^^ y ^^ c).toNat := by
    have := bool_add x y c
    omega
  rw [e]
  exact half_of _ _
theorem bit_add : ∀ (k a b : Nat) (c : Bool), (a + b + c.toNat).testBit k = (a.testBit k ^^ b.testBit k ^^ car a.testBit b.testBit c k)
  | 0, a, b, c => by
    rw [Nat.testBit_zero, Nat.testBit_zero, Nat.testBit_zero]; exact (par_add a b c).1
  | k + 1, a, b, c => by
    rw [Nat.testBit_succ, (par_add a b c).2, bit_add k, car_succ, Nat.testBit_zero, Nat.testBit_zero]
    have e : ∀ x : Nat, (fun i => x.testBit (i + 1)) = (x / 2).testBit := fun x => by funext i; rw [Nat.testBit_succ]
    rw [e a, e b, Nat.testBit_succ, Nat.testBit_succ]
theorem sub_and_x (a b : Nat) : a - (a &&& b) = a ^^^ (a &&& b) := by
  have h := nat_xor_add_and a (a &&& b)
  have h1 : a &&& (a &&& b) = a &&& b := by rw [← Nat.and_assoc, Nat.and_self]
  have h2 : a ||| (a &&& b) = a := by
    apply Nat.eq_of_testBit_eq; intro i; rw [Nat.testBit_or, Nat.testBit_and]; cases a.testBit i <;> simp
  omega
theorem bit_less (a b i : Nat) : (a - (a &&& b)).testBit i = (a.testBit i && !b.testBit i) := by
  rw [sub_and_x, Nat.testBit_xor, Nat.testBit_and]; cases a.testBit i <;> cases b.testBit i <;> rfl
theorem mask_even : ∀ k, k < 17 → Nat.testBit 87381 k = (k % 2 == 0) := by decide
theorem mask_odd : ∀ k, k < 17 → Nat.testBit 43690 k = (k % 2 == 1) := by decide
/-- one place's bits: s here, p ahead, the two carries -/
theorem place_bits : ∀ (s p x y o : Bool), (x && y) = false → (x || y) = p →
    let e := s && !p && !o; let d := s && !p && o
    let t := if o then x else y
    ((((s ^^ e ^^ x) && !s && o) || ((s ^^ d ^^ y) && !s && !o)) || ((s && !(s ^^ e ^^ x) && o) || (s && (s ^^ e ^^ x) && !o))) = t ∧
    (maj s e x && maj s d y) = false ∧ (maj s e x || maj s d y) = s ∧ (if o then maj s d y else maj s e x) = (s && !t) := by decide
section
variable (s : Nat)
def stt : Nat := s - (s &&& 2 * s)
def cE (k : Nat) : Bool := car s.testBit (stt s &&& 87381).testBit false k
def cO (k : Nat) : Bool := car s.testBit (stt s &&& 43690).testBit false k
def prv (k : Nat) : Bool := (2 * s).testBit k
theorem prv_zero : prv s 0 = false := by unfold prv; rw [Nat.testBit_zero]; simp
theorem prv_succ (k : Nat) : prv s (k + 1) = s.testBit k := by unfold prv; rw [Nat.testBit_succ, Nat.mul_div_cancel_left _ (by decide)]
theorem eE (k : Nat) (hk : k < 17) : (stt s &&& 87381).testBit k = (s.testBit k && !prv s k && !(k % 2 == 1)) := by
  rw [Nat.testBit_and, mask_even k hk]
  unfold stt
  rw [bit_less]
  have : (k % 2 == 0) = !(k % 2 == 1) := by rcases Nat.mod_two_eq_zero_or_one k with h | h <;> rw [h] <;> rfl
  rw [this]; rfl
theorem eO (k : Nat) (hk : k < 17) : (stt s &&& 43690).testBit k = (s.testBit k && !prv s k && (k % 2 == 1)) := by
  rw [Nat.testBit_and, mask_odd k hk]
  unfold stt
  rw [bit_less]; rfl
theorem carries : ∀ k, k < 18 → (cE s k && cO s k) = false ∧ (cE s k || cO s k) = prv s k
  | 0, _ => ⟨rfl, (prv_zero s).symm⟩
  | k + 1, h => by
    obtain ⟨h1, h2⟩ := carries k (by omega)
    have := place_bits (s.testBit k) (prv s k) (cE s k) (cO s k) (k % 2 == 1) h1 h2
    have e1 : cE s (k + 1) = maj (s.testBit k) ((stt s &&& 87381).testBit k) (cE s k) := rfl
    have e2 : cO s (k + 1) = maj (s.testBit k) ((stt s &&& 43690).testBit k) (cO s k) := rfl
    rw [e1, e2, eE s k (by omega), eO s k (by omega), prv_succ]
    exact ⟨this.2.1, this.2.2.1⟩
theorem taken_bit (k : Nat) (hk : k < 17) : (taken s).testBit k = if (k % 2 == 1) = true then cE s k else cO s k := by
  obtain ⟨h1, h2⟩ := carries s k (by omega)
  have := (place_bits (s.testBit k) (prv s k) (cE s k) (cO s k) (k % 2 == 1) h1 h2).1
  have ee : (s + (stt s &&& 87381)).testBit k = (s.testBit k ^^ (stt s &&& 87381).testBit k ^^ cE s k) := bit_add k s (stt s &&& 87381) false
  have eo : (s + (stt s &&& 43690)).testBit k = (s.testBit k ^^ (stt s &&& 43690).testBit k ^^ cO s k) := bit_add k s (stt s &&& 43690) false
  have m : (k % 2 == 0) = !(k % 2 == 1) := by rcases Nat.mod_two_eq_zero_or_one k with h | h <;> rw [h] <;> rfl
  have e : (taken s).testBit k = ((((s + (stt s &&& 87381)) - ((s + (stt s &&& 87381)) &&& s)) &&& 43690) ||| (((s + (stt s &&& 43690)) - ((s + (stt s &&& 43690)) &&& s)) &&& 87381) ||| (((s - (s &&& (s + (stt s &&& 87381)))) &&& 43690) ||| ((s &&& (s + (stt s &&& 87381))) &&& 87381))).testBit k := rfl
  rw [e, ← this]
  have hst : (stt s).testBit k = (s.testBit k && !prv s k) := by unfold stt; rw [bit_less]; rfl
  simp only [Nat.testBit_or, Nat.testBit_and, bit_less, mask_even k hk, mask_odd k hk, ee, eo, m, hst]
theorem taken_top (k : Nat) (hk : 17 ≤ k) : (taken s).testBit k = false := by
  have h1 : Nat.testBit 87381 k = false := Nat.testBit_lt_two_pow (Nat.lt_of_lt_of_le (by decide : 87381 < 2 ^ 17) (Nat.pow_le_pow_right (by decide) hk))
  have h2 : Nat.testBit 43690 k = false := Nat.testBit_lt_two_pow (Nat.lt_of_lt_of_le (by decide : 43690 < 2 ^ 17) (Nat.pow_le_pow_right (by decide) hk))
  unfold taken
  simp only [Nat.testBit_or, Nat.testBit_and, h1, h2, Bool.and_false, Bool.or_false]
/-- the signs that a backslash takes, one place after the other: one equation of whole numbers -/
theorem taken_eq (s : Nat) (hs : s < 65536) : taken s % 2 = 0 ∧ taken s / 2 = s - (s &&& taken s) := by
  have h0 : (taken s).testBit 0 = false := taken_bit s 0 (by decide)
  constructor
  · rw [Nat.testBit_zero] at h0
    rcases Nat.mod_two_eq_zero_or_one (taken s) with h | h
    · exact h
    · rw [h] at h0; simp at h0
  · apply Nat.eq_of_testBit_eq
    intro k
    rw [← Nat.testBit_succ, bit_less]
    by_cases hk : k < 16
    · obtain ⟨h1, h2⟩ := carries s k (by omega)
      have := (place_bits (s.testBit k) (prv s k) (cE s k) (cO s k) (k % 2 == 1) h1 h2).2.2.2
      rw [taken_bit s k (by omega), taken_bit s (k + 1) (by omega), ← this, ← eE s k (by omega), ← eO s k (by omega)]
      have m : ((k + 1) % 2 == 1) = !(k % 2 == 1) := by rcases Nat.mod_two_eq_zero_or_one k with h | h <;> rw [Nat.add_mod, h] <;> rfl
      rw [m]
      cases (k % 2 == 1) <;> rfl
    · have hz : s.testBit k = false := Nat.testBit_lt_two_pow (Nat.lt_of_lt_of_le (show s < 2 ^ 16 from hs) (Nat.pow_le_pow_right (by decide) (by omega)))
      rw [hz, taken_top s (k + 1) (by omega)]; rfl
end
end Pm

end
section
open PySem PySem.Calls PyProof.Rows
set_option Elab.async false
set_option linter.unusedVariables false
namespace Pm
def q (k a : Nat) : Nat := a ^^^ (a * 2 ^ k)
theorem xor_mul (a b k : Nat) : (a ^^^ b) * 2 ^ k = (a * 2 ^ k) ^^^ (b * 2 ^ k) := by
  rw [← Nat.shiftLeft_eq, ← Nat.shiftLeft_eq, ← Nat.shiftLeft_eq, Nat.shiftLeft_xor_distrib]
theorem q_comm (i k a : Nat) : q i (q k a) = q k (q i a) := by
  unfold q
  rw [xor_mul, xor_mul, Nat.mul_assoc, Nat.mul_assoc, ← Nat.pow_add, ← Nat.pow_add, Nat.add_comm k i]
  simp only [Nat.xor_assoc]
  congr 1
  rw [← Nat.xor_assoc, ← Nat.xor_assoc, Nat.xor_comm (a * 2 ^ k)]
theorem q_twice (k a : Nat) : q k (q k a) = q (k + k) a := by
  unfold q
  rw [xor_mul, Nat.mul_assoc, ← Nat.pow_add, Nat.xor_assoc, ← Nat.xor_assoc (a * 2 ^ k), Nat.xor_self, Nat.zero_xor]
theorem par_q (m : Nat) : q 1 (par m 4) = q 16 m := by
  show q 1 (q 8 (q 4 (q 2 (q 1 m)))) = q 16 m
  rw [q_comm 1 8, q_comm 1 4, q_comm 1 2, q_twice 1, q_twice 2, q_twice 4, q_twice 8]
end Pm

end
section
open PySem PySem.Calls PyProof.Rows
set_option Elab.async false
set_option linter.unusedVariables false
set_option maxRecDepth 100000
namespace Pm
theorem sg_r : ∀ f, f < 8 → isIn [114, 119, 120, 115, 116] ([45, 114].getD (f / 4) 0) = f / 4 := by decide
theorem sg_w : ∀ f, f < 8 → isIn [114, 119, 120, 115, 116] ([45, 119].getD (f / 2 % 2) 0) = f / 2 % 2 := by decide
theorem sg_x : ∀ k, k < 3 → ∀ f, f < 8 → ∀ b, b < 2 → isIn [114, 119, 120, 115, 116] ((xs k).getD (f % 2 + b * 2) 0) = f % 2 := by decide
theorem sg_t : ∀ k, k < 3 → ∀ f, f < 8 → ∀ b, b < 2 → isIn [116, 84, 115, 83] ((xs k).getD (f % 2 + b * 2) 0) = b := by decide
theorem oct4 (x : Nat) : x % 8 / 4 = x / 4 % 2 := Nat.mod_mul_right_div_self x 4 2
theorem oct2 (x : Nat) : x % 8 / 2 % 2 = x / 2 % 2 := (congrArg (· % 2) (Nat.mod_mul_right_div_self x 2 4)).trans (Nat.mod_mod_of_dvd _ (by decide))
theorem oct1 (x : Nat) : x % 8 % 2 = x % 2 := Nat.mod_mod_of_dvd x (by decide)
theorem top_bit (m k : Nat) (h : k < 4) : (m &&& 61440) / 2 ^ (12 + k) % 2 = m / 2 ^ (12 + k) % 2 := by
  have e : ∀ x : Nat, x / 2 ^ (12 + k) % 2 = (x.testBit (12 + k)).toNat := fun x => by rw [Nat.testBit_eq_decide_div_mod_eq]; have := Nat.mod_two_eq_zero_or_one (x / 2 ^ (12 + k)); rcases this with q | q <;> simp [q]
  have hb : ∀ k, k < 4 → Nat.testBit 61440 (12 + k) = true := by decide
  rw [e, e, Nat.testBit_and, hb k h, Bool.and_true]
theorem lbits_eq (m : Nat) (hm : m < 65536) : lbits m = (List.range 16).map fun k => m / 2 ^ k % 2 := by
  have hx := fun k hk => sg_x k hk (m / 8 ^ k % 8) (Nat.mod_lt _ (by decide)) (m / 2 ^ (9 + k) % 2) (Nat.mod_lt _ (by decide))
  have ht := fun k hk => sg_t k hk (m / 8 ^ k % 8) (Nat.mod_lt _ (by decide)) (m / 2 ^ (9 + k) % 2) (Nat.mod_lt _ (by decide))
  have hw := fun k => sg_w (m / 8 ^ k % 8) (Nat.mod_lt _ (by decide))
  have hr := fun k => sg_r (m / 8 ^ k % 8) (Nat.mod_lt _ (by decide))
  have e9 : List.range 9 = [0, 1, 2, 3, 4, 5, 6, 7, 8] := by decide
  have e3 : List.range 3 = [0, 1, 2] := by decide
  have e4 : List.range 4 = [0, 1, 2, 3] := by decide
  have e16 : List.range 16 = [0, 1, 2, 3, 4, 5, 6, 7, 8, 9, 10, 11, 12, 13, 14, 15] := by decide
  unfold lbits
  rw [fmode_row m hm, e9, e3, e4, e16]
  simp only [List.map_cons, List.map_nil, List.cons_append, List.nil_append]
  have x0 := hx 0 (by decide); have x1 := hx 1 (by decide); have x2 := hx 2 (by decide)
  have t0 := ht 0 (by decide); have t1 := ht 1 (by decide); have t2 := ht 2 (by decide)
  have w0 := hw 0; have w1 := hw 1; have w2 := hw 2
  have r0 := hr 0; have r1 := hr 1; have r2 := hr 2
  show [isIn _ ((xs 0).getD _ 0), isIn _ ([45, 119].getD _ 0), isIn _ ([45, 114].getD _ 0), isIn _ ((xs 1).getD _ 0), isIn _ ([45, 119].getD _ 0), isIn _ ([45, 114].getD _ 0), isIn _ ((xs 2).getD _ 0), isIn _ ([45, 119].getD _ 0), isIn _ ([45, 114].getD _ 0),
    isIn _ ((xs 0).getD _ 0), isIn _ ((xs 1).getD _ 0), isIn _ ((xs 2).getD _ 0), _, _, _, _] = _
  rw [x0, x1, x2, t0, t1, t2, w0, w1, w2, r0, r1, r2, top_bit m 0 (by decide), top_bit m 1 (by decide), top_bit m 2 (by decide), top_bit m 3 (by decide),
    oct1, oct1, oct1, oct2, oct2, oct2, oct4, oct4, oct4, Nat.div_div_eq_div_mul, Nat.div_div_eq_div_mul, Nat.div_div_eq_div_mul, Nat.div_div_eq_div_mul, Nat.div_div_eq_div_mul, Nat.div_div_eq_div_mul]
end Pm

end
section
open PySem PySem.Calls PyProof.Rows
set_option Elab.async false
set_option linter.unusedVariables false
namespace Pm
theorem testBit_sub_and (a b i : Nat) : (a - (a &&& b)).testBit i = (a.testBit i && !b.testBit i) := bit_less a b i
theorem taken_zero (s : Nat) (hs : s < 65536) : (taken s).testBit 0 = false := by
  have h := (taken_eq s hs).1
  rw [Nat.testBit_zero]; simp [h]
theorem taken_succ (s : Nat) (hs : s < 65536) (k : Nat) : (taken s).testBit (k + 1) = (s.testBit k && !(taken s).testBit k) := by
  rw [Nat.testBit_succ, (taken_eq s hs).2, testBit_sub_and]
end Pm

end
section
open PySem PySem.Calls PyProof.Rows
set_option Elab.async false
set_option linter.unusedVariables false
namespace Pm
/-- a backslash ahead takes the sign at this place -/
def flg (l : List Nat) : Nat → Bool
  | 0 => false
  | i + 1 => !flg l i && (l.getD i 0 == 92)
def unitAt (l : List Nat) (i : Nat) : Option (Nat × List Nat) :=
  if flg l i then some (i, [92, l.getD i 0]) else if l.getD i 0 = 92 then (if i + 1 = l.length then some (i, [92]) else none) else some (i, [l.getD i 0])
theorem escs_at (l : List Nat) : ∀ (r : List Nat) (c i : Nat), l.drop i = c :: r → escs i (flg l i) (c :: r) = (List.range' i (c :: r).length).filterMap (unitAt l) := by
  intro r
  induction r with
  | nil =>
    intro c i hd
    have hlt : i < l.length := by
      rcases Nat.lt_or_ge i l.length with h | h
      · exact h
      · rw [List.drop_eq_nil_of_le h] at hd; cases hd
    have hlen : i + 1 = l.length := by have := congrArg List.length hd; simp at this; omega
    have hg : l.getD i 0 = c := by
      rw [List.drop_eq_getElem_cons hlt] at hd
      rw [List.getD_eq_getElem?_getD, List.getElem?_eq_getElem hlt]; exact (List.cons.inj hd).1
    have hu : unitAt l i = if flg l i then some (i, [92, c]) else if c = 92 then (if i + 1 = l.length then some (i, [92]) else none) else some (i, [c]) := by unfold unitAt; rw [hg]
    rw [show List.range' i [c].length = [i] from rfl, List.filterMap_cons, List.filterMap_nil, hu]
    cases hf : flg l i with
    | true => simp [escs]
    | false =>
      by_cases h92 : c = 92
      · simp [escs, h92, hlen]; omega
      · simp [escs, h92]
  | cons c' r ih =>
    intro c i hd
    have hlt : i < l.length := by
      rcases Nat.lt_or_ge i l.length with h | h
      · exact h
      · rw [List.drop_eq_nil_of_le h] at hd; cases hd
    have hlen : i + 1 ≠ l.length := by have := congrArg List.length hd; simp at this; omega
    rw [List.drop_eq_getElem_cons hlt] at hd
    have hg : l.getD i 0 = c := by
      rw [List.getD_eq_getElem?_getD, List.getElem?_eq_getElem hlt]; exact (List.cons.inj hd).1
    have ih' := ih c' (i + 1) (List.cons.inj hd).2
    have hr : List.range' i (c :: c' :: r).length = i :: List.range' (i + 1) (c' :: r).length := by simp [List.range'_succ]
    rw [hr, List.filterMap_cons, ← ih']
    have hs : flg l (i + 1) = (!flg l i && (c == 92)) := by rw [← hg]; rfl
    have hu : unitAt l i = if flg l i then some (i, [92, c]) else if c = 92 then (if i + 1 = l.length then some (i, [92]) else none) else some (i, [c]) := by unfold unitAt; rw [hg]
    rw [hu, hs]
    cases hf : flg l i with
    | true => simp [escs]
    | false =>
      by_cases h92 : c = 92
      · simp [escs, h92, hlen]
      · simp [escs, h92]
theorem units_at (l : List Nat) : units l = (List.range l.length).filterMap (unitAt l) := by
  cases l with
  | nil => rfl
  | cons c r =>
    have := escs_at (c :: r) r c 0 rfl
    rw [List.range_eq_range']
    exact this
end Pm

end
section
open PySem PySem.Calls PyProof.Rows
set_option Elab.async false
set_option linter.unusedVariables false
namespace Pm
theorem bit_div (m k : Nat) : m / 2 ^ k % 2 = (m.testBit k).toNat := by
  rw [Nat.testBit_eq_decide_div_mod_eq]
  have : m / 2 ^ k % 2 < 2 := Nat.mod_lt _ (by decide)
  by_cases h : m / 2 ^ k % 2 = 1
  · simp [h]
  · have h0 : m / 2 ^ k % 2 = 0 := by omega
    simp [h0]
theorem lbits_bit {m k : Nat} (hm : m < 65536) (hk : k < 16) : (lbits m).getD k 0 = (m.testBit k).toNat := by
  rw [lbits_eq m hm, List.getD_eq_getElem?_getD, List.getElem?_map, List.getElem?_range hk]
  exact bit_div m k
/-- the sign at a place, by the two bits -/
def sgn (a b : Bool) : Nat := if a then (if b then 92 else 34) else (if b then 40 else 41)
theorem text_sgn {f s k : Nat} (hf : f < 65536) (hs : s < 65536) (hk : k < 16) : (rtext f s).getD k 0 = sgn (f.testBit k) (s.testBit k) := by
  have e : (rtext f s).getD k 0 = [41, 40, 34, 92].getD (2 * (lbits f).getD k 0 + (lbits s).getD k 0) 0 := by
    unfold rtext; rw [List.getD_eq_getElem?_getD, List.getElem?_map, List.getElem?_range hk]; rfl
  rw [e, lbits_bit hf hk, lbits_bit hs hk]
  cases f.testBit k <;> cases s.testBit k <;> rfl
theorem text_bs {f s k : Nat} (hf : f < 65536) (hs : s < 65536) (hk : k < 16) : ((rtext f s).getD k 0 == 92) = (f &&& s).testBit k := by
  rw [text_sgn hf hs hk, Nat.testBit_and]
  cases f.testBit k <;> cases s.testBit k <;> rfl
theorem and_lt' {f s : Nat} (hf : f < 65536) : f &&& s < 65536 := Nat.lt_of_le_of_lt Nat.and_le_left hf
theorem text_flg {f s : Nat} (hf : f < 65536) (hs : s < 65536) : ∀ k, k ≤ 16 → flg (rtext f s) k = (rtaken f s).testBit k
  | 0, _ => (taken_zero _ (and_lt' hf)).symm
  | k + 1, h => by
    show (!flg (rtext f s) k && ((rtext f s).getD k 0 == 92)) = _
    rw [text_flg hf hs k (by omega), text_bs hf hs (by omega)]
    unfold rtaken
    rw [taken_succ _ (and_lt' hf), Bool.and_comm]
theorem fm_congr {α β : Type} {g h : α → Option β} : ∀ {l : List α}, (∀ x ∈ l, g x = h x) → l.filterMap g = l.filterMap h
  | [], _ => rfl
  | x :: r, e => by rw [List.filterMap_cons, List.filterMap_cons, e x (by simp), fm_congr fun y hy => e y (by simp [hy])]
theorem due_ok {f s : Nat} (hf : f < 65536) (hs : s < 65536) : units (rtext f s) = rdue f s := by
  have hl : (rtext f s).length = 16 := by simp [rtext]
  rw [units_at, hl]
  unfold rdue
  refine fm_congr fun k hk => ?_
  have hk' := List.mem_range.mp hk
  unfold unitAt dueAt
  rw [text_flg hf hs k (by omega), bit_div, bit_div, hl]
  have hb := text_bs hf hs hk'
  generalize (rtext f s).getD k 0 = c at *
  cases h1 : (rtaken f s).testBit k with
  | true => simp
  | false =>
    cases h2 : (f &&& s).testBit k with
    | true =>
      rw [h2] at hb
      have hb' := beq_iff_eq.mp hb
      by_cases h15 : k = 15
      · subst h15; simp [hb']
      · have : k + 1 ≠ 16 := by omega
        simp [hb', h15]
    | false =>
      rw [h2] at hb
      have hb' : ¬ c = 92 := by intro e; rw [e] at hb; simp at hb
      simp only [Bool.false_eq_true, if_false, if_neg hb']; simp
end Pm

end
section
open PySem PySem.Calls PyProof.Rows
set_option Elab.async false
set_option linter.unusedVariables false
namespace Pm
/-- a mark still to come -/
def hasm : Bool → List Nat → Bool
  | _, [] => false
  | e, c :: r => (!e && c == 34) || hasm (!e && c == 92) r
/-- what stays of a text: e, a backslash stands ahead; o, a mark is open that will be closed -/
def vis : Bool → Bool → List Nat → List Nat
  | _, _, [] => []
  | e, o, c :: r => if (!e && c == 34) = true then (if o = true then vis false false r else if hasm false r = true then vis false true r else c :: r) else (if o = true then [] else [c]) ++ vis (!e && c == 92) o r
def toks : Bool → List Nat → List (List Nat)
  | e, [] => if e = true then [[92]] else []
  | e, c :: r => if e = true then [92, c] :: toks false r else if c = 92 then toks true r else [c] :: toks false r
theorem escs_snd : ∀ (l : List Nat) (i : Nat) (e : Bool), (escs i e l).map (·.2) = toks e l
  | [], i, e => by cases e <;> rfl
  | c :: r, i, e => by
    unfold escs toks
    cases e with
    | true => simp [escs_snd r]
    | false => by_cases h : c = 92 <;> simp [h, escs_snd r]
theorem take_one {l r : List Nat} {i c : Nat} (h : l.drop i = c :: r) : i < l.length ∧ l.take (i + 1) = l.take i ++ [c] ∧ l.drop (i + 1) = r := by
  have hlt : i < l.length := by
    rcases Nat.lt_or_ge i l.length with h' | h'
    · exact h'
    · rw [List.drop_eq_nil_of_le h'] at h; cases h
  rw [List.drop_eq_getElem_cons hlt] at h
  obtain ⟨h1, h2⟩ := List.cons.inj h
  refine ⟨hlt, ?_, h2⟩
  rw [List.take_succ_eq_append_getElem hlt, h1]
theorem drop_app {l : List Nat} {i a : Nat} (h : a ≤ i) (hi : i ≤ l.length) (z : List Nat) : (l.take i ++ z).drop a = (l.take i).drop a ++ z := by
  rw [List.drop_append, show a - (l.take i).length = 0 by simp; omega, List.drop_zero]
theorem strip_run (l : List Nat) : ∀ (r : List Nat) (i : Nat) (e : Bool) (st : Stp3), l.drop i = r → st.start ≤ i → (∀ o, st.op = some o → st.start ≤ o ∧ o ≤ i) →
    (stripEnd l ((escs i e r).foldl (stripStep l) st)).flatten = st.res.flatten ++ (match st.op with
      | none => (l.take i).drop st.start ++ vis e false r
      | some o => if hasm e r = true then (l.take o).drop st.start ++ vis e true r else l.drop st.start) := by
  have ende : ∀ st : Stp3, (stripEnd l st).flatten = st.res.flatten ++ l.drop st.start := by
    intro st
    unfold stripEnd
    by_cases h : st.start < l.length
    · rw [if_pos h]; simp
    · rw [if_neg h, List.drop_eq_nil_of_le (by omega)]; simp
  have skip : ∀ (st : Stp3) (u : Nat × List Nat), u.2 ≠ [34] → stripStep l st u = st := by
    intro st u h; unfold stripStep; rw [if_neg h]
  intro r
  induction r with
  | nil =>
    intro i e st hd hs ho
    have hi : l.length ≤ i := List.drop_eq_nil_iff.mp hd
    have e1 : (escs i e []).foldl (stripStep l) st = st := by
      cases e with
      | true => exact skip st (i - 1, [92]) (by simp)
      | false => rfl
    rw [e1, ende]
    obtain ⟨start, op, res⟩ := st
    cases op with
    | none => simp only [vis, List.append_nil]; rw [List.take_of_length_le hi]
    | some o => simp [hasm]
  | cons c r ih =>
    intro i e st hd hs ho
    obtain ⟨hlt, ht, hd'⟩ := take_one hd
    have hs' : st.start ≤ i + 1 := by omega
    have ho' : ∀ o, st.op = some o → st.start ≤ o ∧ o ≤ i + 1 := fun o h => by have := ho o h; omega
    have plain : ∀ e', (!e && c == 34) = false → (!e && c == 92) = e' → (stripEnd l ((escs (i + 1) e' r).foldl (stripStep l) st)).flatten = st.res.flatten ++ (match st.op with
      | none => (l.take i).drop st.start ++ vis e false (c :: r)
      | some o => if hasm e (c :: r) = true then (l.take o).drop st.start ++ vis e true (c :: r) else l.drop st.start) := by
      intro e' h34 he'
      rw [ih (i + 1) e' st hd' hs' ho']
      congr 1
      cases hop : st.op with
      | none =>
        simp only [vis, h34, he']
        rw [ht, drop_app hs (by omega)]; simp
      | some o => simp only [vis, hasm, h34, he']; simp
    cases e with
    | true =>
      have := plain false rfl rfl
      simp only [escs, if_true, List.foldl_cons, skip st (i, [92, c]) (by simp)]
      exact this
    | false =>
      by_cases h92 : c = 92
      · subst h92
        have := plain true rfl rfl
        simp only [escs, if_true, Bool.false_eq_true, if_false]
        exact this
      · by_cases h34 : c = 34
        · subst h34
          simp only [escs, Bool.false_eq_true, if_false, h92, List.foldl_cons]
          obtain ⟨start, op, res⟩ := st
          cases op with
          | none =>
            have e1 : stripStep l ⟨start, none, res⟩ (i, [34]) = ⟨start, some i, res⟩ := by simp [stripStep]
            rw [e1, ih (i + 1) false ⟨start, some i, res⟩ hd' (by simp at hs ⊢; omega) (by simp at hs ⊢; omega)]
            simp only [vis]
            cases hm : hasm false r with
            | true => simp
            | false =>
              simp only [Bool.false_eq_true, if_false]
              congr 1
              have : l = l.take i ++ 34 :: r := by rw [← hd, List.take_append_drop]
              calc l.drop start = (l.take i ++ 34 :: r).drop start := by rw [← this]
                _ = _ := drop_app hs (by omega) _
          | some o =>
            have e1 : stripStep l ⟨start, some o, res⟩ (i, [34]) = ⟨i + 1, none, if start ≠ o then res ++ [(l.take o).drop start] else res⟩ := by simp [stripStep]
            rw [e1, ih (i + 1) false ⟨i + 1, none, _⟩ hd' (Nat.le_refl _) (by simp)]
            have e2 : (l.take (i + 1)).drop (i + 1) = [] := by simp
            have e3 : (if start ≠ o then res ++ [(l.take o).drop start] else res).flatten = res.flatten ++ (l.take o).drop start := by
              by_cases h : start = o
              · subst h; simp
              · simp [h]
            simp only [vis, hasm, e2, e3]; simp
        · have := plain false (by simp [h34]) (by simp [h92])
          simp only [escs, Bool.false_eq_true, if_false, h92, List.foldl_cons, skip st (i, [c]) (by simp [h34])]
          exact this
theorem vis_none : ∀ (l : List Nat) (e : Bool), 34 ∉ l → vis e false l = l
  | [], e, h => rfl
  | c :: r, e, h => by
    have h1 : c ≠ 34 := fun q => h (by simp [q])
    have h2 : 34 ∉ r := fun q => h (by simp [q])
    simp [vis, h1, vis_none r _ h2]
theorem strip_vis (l : List Nat) : strip l = vis false false l := by
  unfold strip
  by_cases h : 34 ∈ l
  · rw [if_pos h]
    have := strip_run l l 0 false ⟨0, none, []⟩ rfl (Nat.le_refl _) (by simp)
    simpa [stripRun] using this
  · rw [if_neg h, vis_none l _ h]
def vtoks : Bool → Bool → List Nat → List (List Nat)
  | e, o, [] => if (e && !o) = true then [[92]] else []
  | e, o, c :: r => if (!e && c == 34) = true then (if o = true then vtoks false false r else if hasm false r = true then vtoks false true r else toks false (c :: r)) else (if o = true then [] else if e = true then [[92, c]] else if c = 92 then [] else [[c]]) ++ vtoks (!e && c == 92) o r
theorem toks_vis : ∀ (r : List Nat) (e o : Bool), (o = true → hasm e r = true) → toks (e && !o) (vis e o r) = vtoks e o r
  | [], e, o, h => by
    cases o with
    | true => simp [hasm] at h
    | false => cases e <;> rfl
  | c :: r, e, o, h => by
    cases e with
    | true =>
      cases o with
      | true => simpa [vis, vtoks] using toks_vis r false true (by simpa [hasm] using h)
      | false => simpa [vis, vtoks, toks] using toks_vis r false false (by simp)
    | false =>
      by_cases h34 : c = 34
      · subst h34
        cases o with
        | true => simpa [vis, vtoks] using toks_vis r false false (by simp)
        | false =>
          cases hm : hasm false r with
          | true => simpa [vis, vtoks, hm] using toks_vis r false true (fun _ => hm)
          | false => simp [vis, vtoks, hm]
      · have h34' : (c == 34) = false := by simp [h34]
        by_cases h92 : c = 92
        · subst h92
          cases o with
          | true => simpa [vis, vtoks] using toks_vis r true true (by simpa [hasm] using h)
          | false => simpa [vis, vtoks, toks] using toks_vis r true false (by simp)
        · have h92' : (c == 92) = false := by simp [h92]
          cases o with
          | true => simpa [vis, vtoks, h34', h92'] using toks_vis r false true (by simpa [hasm, h34', h92'] using h)
          | false => simpa [vis, vtoks, toks, h34', h92', h92] using toks_vis r false false (by simp)
theorem toks_strip (l : List Nat) : (units (strip l)).map (·.2) = vtoks false false l := by
  rw [escs_snd, strip_vis]; exact toks_vis l false false (by simp)
end Pm

end
section
open PySem PySem.Calls PyProof.Rows
set_option Elab.async false
set_option linter.unusedVariables false
namespace Pm
/-- an odd number of marks ahead of this place -/
def opn (b : Nat → Bool) : Nat → Bool
  | 0 => false
  | k + 1 => opn b k ^^ b k
theorem opn_count (b : Nat → Bool) : ∀ k, opn b k = ((List.range k).countP b % 2 == 1)
  | 0 => rfl
  | k + 1 => by
    rw [opn, opn_count b k, List.range_succ, List.countP_append]
    cases hb : b k with
    | true =>
      rw [show List.countP b [k] = 1 by simp [hb]]
      have : (List.range k).countP b % 2 < 2 := Nat.mod_lt _ (by decide)
      rw [Bool.eq_iff_iff]; simp; omega
    | false => rw [show List.countP b [k] = 0 by simp [hb]]; simp
theorem opn_congr {b c : Nat → Bool} : ∀ k, (∀ j, j < k → b j = c j) → opn b k = opn c k
  | 0, _ => rfl
  | k + 1, h => by rw [opn, opn, opn_congr k fun j hj => h j (by omega), h k (by omega)]
theorem opn_flat {b : Nat → Bool} {k : Nat} : ∀ n, (∀ j, k ≤ j → j < k + n → b j = false) → opn b (k + n) = opn b k
  | 0, _ => rfl
  | n + 1, h => by
    show (opn b (k + n) ^^ b (k + n)) = _
    rw [h (k + n) (by omega) (by omega), opn_flat n fun j h1 h2 => h j h1 (by omega)]; simp
theorem ones_eq (m : Nat) : ones m = (List.range 17).filter m.testBit := by
  unfold ones
  refine List.filter_congr fun k _ => ?_
  rw [bit_div]; cases m.testBit k <;> rfl
theorem last_max {m x : Nat} (h : (ones m).length % 2 = 1) (hx : (ones m).getLastD 0 = x) : x < 17 ∧ m.testBit x = true ∧ ∀ j, j < 17 → m.testBit j = true → j ≤ x := by
  have hne : ones m ≠ [] := by intro e; rw [e] at h; simp at h
  have hl : (ones m).getLast hne = x := by
    rw [← hx]
    generalize ones m = L at hne
    cases L with
    | nil => exact absurd rfl hne
    | cons a r => rfl
  have hmem : x ∈ ones m := hl ▸ List.getLast_mem hne
  rw [ones_eq] at hmem
  obtain ⟨h1, h2⟩ := List.mem_filter.mp hmem
  refine ⟨List.mem_range.mp h1, h2, fun j hj hb => ?_⟩
  have hjm : j ∈ ones m := by rw [ones_eq]; exact List.mem_filter.mpr ⟨List.mem_range.mpr hj, hb⟩
  have hp : (ones m).Pairwise (· < ·) := by rw [ones_eq]; exact List.Pairwise.filter _ List.pairwise_lt_range
  rw [← List.dropLast_concat_getLast hne, hl] at hjm hp
  rcases List.mem_append.mp hjm with h | h
  · exact Nat.le_of_lt ((List.pairwise_append.mp hp).2.2 j h x (by simp))
  · rw [List.mem_singleton.mp h]; exact Nat.le_refl _
theorem and_pow {m x : Nat} (h : m.testBit x = true) : m &&& 2 ^ x = 2 ^ x := by
  apply Nat.eq_of_testBit_eq
  intro i
  rw [Nat.testBit_and, Nat.testBit_two_pow]
  by_cases e : x = i
  · subst e; simp [h]
  · simp [e]
theorem even_bit {m x : Nat} (h : m.testBit x = true) (i : Nat) : (m - 2 ^ x).testBit i = (m.testBit i && !decide (x = i)) := by
  have := testBit_sub_and m (2 ^ x) i
  rwa [and_pow h, Nat.testBit_two_pow] at this
/-- the marks without an odd last one -/
theorem even_facts (m : Nat) (hm : m < 65536) : (∀ k, m.testBit k = false → (even' m).testBit k = false) ∧ (∀ k j, k < j → m.testBit k = true → m.testBit j = true → (even' m).testBit k = true) ∧ opn (even' m).testBit 16 = false ∧ even' m ≤ m := by
  have h16 : ∀ j, 16 ≤ j → m.testBit j = false := fun j hj => Nat.testBit_lt_two_pow (Nat.lt_of_lt_of_le (show m < 2 ^ 16 from hm) (Nat.pow_le_pow_right (by decide) hj))
  have hlen : (ones m).length = (List.range 17).countP m.testBit := by rw [ones_eq, List.countP_eq_length_filter]
  have o17 : opn m.testBit 17 = opn m.testBit 16 := by show (opn m.testBit 16 ^^ m.testBit 16) = _; rw [h16 16 (by decide)]; simp
  have ho := opn_count m.testBit 17
  rw [← hlen, o17] at ho
  unfold even'
  by_cases h : (ones m).length % 2 = 1
  · rw [if_pos h]
    obtain ⟨hx, hb, hmax⟩ := last_max h rfl
    generalize (ones m).getLastD 0 = x at *
    refine ⟨fun k hk => by rw [even_bit hb, hk]; rfl, fun k j hkj hk hj => ?_, ?_, Nat.sub_le _ _⟩
    · rw [even_bit hb, hk]
      have : j < 17 := by
        rcases Nat.lt_or_ge j 17 with q | q
        · exact q
        · rw [h16 j (by omega)] at hj; cases hj
      have := hmax j this hj
      simp; omega
    · have hx16 : x < 16 := by
        rcases Nat.lt_or_ge x 16 with q | q
        · exact q
        · rw [h16 x q] at hb; cases hb
      have e1 : opn (m - 2 ^ x).testBit x = opn m.testBit x := opn_congr x fun j hj => by rw [even_bit hb]; simp; omega
      have e2 : opn (m - 2 ^ x).testBit (x + 1 + (15 - x)) = opn (m - 2 ^ x).testBit (x + 1) := opn_flat _ fun j h1 h2 => by
        rw [even_bit hb]
        cases hj : m.testBit j with
        | false => rfl
        | true => have := hmax j (by omega) hj; omega
      have e3 : opn m.testBit (x + 1 + (15 - x)) = opn m.testBit (x + 1) := opn_flat _ fun j h1 h2 => by
        cases hj : m.testBit j with
        | false => rfl
        | true => have := hmax j (by omega) hj; omega
      have e4 : x + 1 + (15 - x) = 16 := by omega
      rw [e4] at e2 e3
      rw [e2]
      show (opn (m - 2 ^ x).testBit x ^^ (m - 2 ^ x).testBit x) = false
      rw [e1, even_bit hb, hb]
      rw [e3] at ho
      have ho' : (opn m.testBit x ^^ m.testBit x) = true := by rw [h] at ho; exact ho
      rw [hb] at ho'
      simpa using ho'
  · rw [if_neg h]
    refine ⟨fun k hk => hk, fun k j _ hk _ => hk, ?_, Nat.le_refl _⟩
    rw [ho]; simpa using h
theorem par_bit (m : Nat) : ∀ k, k < 16 → (par m 4).testBit k = opn m.testBit (k + 1) := by
  have hq := par_q m
  generalize par m 4 = p at hq
  have hb : ∀ k, k < 16 → (p.testBit k ^^ (p * 2 ^ 1).testBit k) = m.testBit k := by
    intro k hk
    have := congrArg (Nat.testBit · k) hq
    simp only [q, Nat.testBit_xor] at this
    rw [this, ← Nat.shiftLeft_eq, Nat.testBit_shiftLeft]
    have : ¬ k ≥ 16 := by omega
    simp [this]
  intro k
  induction k with
  | zero =>
    intro h
    have := hb 0 h
    rw [← Nat.shiftLeft_eq, Nat.testBit_shiftLeft] at this
    simpa [opn] using this
  | succ k ih =>
    intro h
    have h1 := hb (k + 1) h
    have h2 := ih (by omega)
    rw [← Nat.shiftLeft_eq, Nat.testBit_shiftLeft] at h1
    simp only [Nat.add_sub_cancel, show (k + 1 ≥ 1) = True by simp, decide_true, Bool.true_and] at h1
    show _ = (opn m.testBit (k + 1) ^^ m.testBit (k + 1))
    rw [← h2, ← h1]
    cases p.testBit (k + 1) <;> cases p.testBit k <;> rfl
theorem hidden_bit (m k : Nat) (hk : k < 16) : (hidden m).testBit k = (opn (even' m).testBit (k + 1) || (even' m).testBit k) := by
  unfold hidden
  rw [and_65535, show 65536 = 2 ^ 16 from rfl, Nat.testBit_mod_two_pow, Nat.testBit_or, par_bit _ k hk]
  simp [hk]
end Pm

end
section
open PySem PySem.Calls PyProof.Rows
set_option Elab.async false
set_option linter.unusedVariables false
namespace Pm
def mk (l : List Nat) (i : Nat) : Bool := !flg l i && l.getD i 0 == 34
theorem drop_getD {l r : List Nat} {i c : Nat} (h : l.drop i = c :: r) : l.getD i 0 = c := by
  have hlt := (take_one h).1
  rw [List.drop_eq_getElem_cons hlt] at h
  rw [List.getD_eq_getElem?_getD, List.getElem?_eq_getElem hlt]; exact (List.cons.inj h).1
theorem hasm_iff (l : List Nat) : ∀ (r : List Nat) (i : Nat), l.drop i = r → (hasm (flg l i) r = true ↔ ∃ j, i ≤ j ∧ j < l.length ∧ mk l j = true)
  | [], i, h => by
    have hi : l.length ≤ i := List.drop_eq_nil_iff.mp h
    constructor
    · intro h; simp [hasm] at h
    · rintro ⟨j, h1, h2, _⟩; omega
  | c :: r, i, h => by
    obtain ⟨hlt, _, hd⟩ := take_one h
    have hg := drop_getD h
    have ih := hasm_iff l r (i + 1) hd
    have hf : flg l (i + 1) = (!flg l i && c == 92) := by rw [← hg]; rfl
    have hmk : mk l i = (!flg l i && c == 34) := by rw [← hg]; rfl
    show ((!flg l i && c == 34) || hasm (!flg l i && c == 92) r) = true ↔ _
    rw [← hf, ← hmk, Bool.or_eq_true, ih]
    constructor
    · rintro (h | ⟨j, h1, h2, h3⟩)
      · exact ⟨i, Nat.le_refl _, hlt, h⟩
      · exact ⟨j, by omega, h2, h3⟩
    · rintro ⟨j, h1, h2, h3⟩
      rcases Nat.eq_or_lt_of_le h1 with e | e
      · subst e; exact .inl h3
      · exact .inr ⟨j, e, h2, h3⟩
theorem toks_at (l r : List Nat) (c i : Nat) (h : l.drop i = c :: r) : toks (flg l i) (c :: r) = (List.range' i (c :: r).length).filterMap fun k => (unitAt l k).map (·.2) := by
  rw [← escs_snd (c :: r) i, escs_at l r c i h, List.map_filterMap]
theorem range'_map_getD (l : List Nat) : ∀ (r : List Nat) (i : Nat), l.drop i = r → (List.range' i r.length).map (fun k => l.getD k 0) = r
  | [], i, h => rfl
  | c :: r, i, h => by
    rw [List.length_cons, List.range'_succ, List.map_cons, drop_getD h, range'_map_getD l r (i + 1) (take_one h).2.2]
section
variable {l : List Nat} {M : Nat} (hl : l.length = 16) (hM : M < 65536) (hm : ∀ k, k < 16 → mk l k = M.testBit k)
include hl hM hm
theorem vis_idx : ∀ (r : List Nat) (i : Nat), l.drop i = r → i ≤ 16 →
    vis (flg l i) (opn (even' M).testBit i) r = ((List.range' i r.length).filter fun k => !(hidden M).testBit k).map (fun k => l.getD k 0) ∧
    vtoks (flg l i) (opn (even' M).testBit i) r = ((List.range' i r.length).filterMap fun k => if (hidden M).testBit k = true then none else (unitAt l k).map (·.2)) ++ (if r = [] ∧ flg l i = true then [[92]] else [])
  | [], i, h, hi => by
    have hi' : l.length ≤ i := List.drop_eq_nil_iff.mp h
    have e : i = 16 := Nat.le_antisymm hi (hl ▸ hi')
    subst e
    rw [(even_facts M hM).2.2.1]
    refine ⟨by simp [vis], ?_⟩
    simp [vtoks]
  | c :: r, i, h, hi => by
    obtain ⟨hlt, _, hd⟩ := take_one h
    have hg := drop_getD h
    have hg' : l[i]?.getD 0 = c := by rw [← List.getD_eq_getElem?_getD]; exact hg
    have hi16 : i < 16 := hl ▸ hlt
    obtain ⟨ih1, ih2⟩ := vis_idx r (i + 1) hd hi16
    have hf : flg l (i + 1) = (!flg l i && c == 92) := by rw [← hg]; rfl
    have hmk : mk l i = (!flg l i && c == 34) := by rw [← hg]; rfl
    have hrl : r.length = 16 - (i + 1) := by rw [← hd, List.length_drop, hl]
    obtain ⟨f1, f2, f3, _⟩ := even_facts M hM
    have hh := fun k hk => hidden_bit M k hk
    generalize hb : (even' M).testBit = b at *
    have hh' : ∀ k, k < 16 → (hidden M).testBit k = (opn b k || b k) := by
      intro k hk
      rw [hh k hk]
      show ((opn b k ^^ b k) || b k) = _
      cases opn b k <;> cases b k <;> rfl
    have later : hasm (flg l (i + 1)) r = true → M.testBit i = true → b i = true := by
      intro h1 h2
      obtain ⟨j, j1, j2, j3⟩ := (hasm_iff l r (i + 1) hd).mp h1
      exact f2 i j j1 h2 (by rw [← hm j (hl ▸ j2)]; exact j3)
    have nolater : hasm (flg l (i + 1)) r ≠ true → (∀ j, i < j → j < 16 → b j = false) ∧ b i = opn b i := by
      intro h1
      have hz : ∀ j, i < j → j < 16 → b j = false := fun j hj hj' => by
        refine f1 j ?_
        cases hq : M.testBit j with
        | false => rfl
        | true => exact absurd ((hasm_iff l r (i + 1) hd).mpr ⟨j, hj, hl.symm ▸ hj', by rw [hm j hj']; exact hq⟩) h1
      refine ⟨hz, ?_⟩
      have e := opn_flat (b := b) (k := i + 1) (16 - (i + 1)) fun j h1 h2 => hz j h1 (Nat.lt_of_lt_of_eq h2 (Nat.add_sub_of_le hi16))
      rw [Nat.add_sub_of_le hi16, f3] at e
      have e' : (opn b i ^^ b i) = false := e.symm
      cases h1 : opn b i <;> cases h2 : b i <;> simp_all
    rw [List.length_cons, List.range'_succ, List.filter_cons, List.filterMap_cons, hh' i hi16]
    have ho : opn b (i + 1) = (opn b i ^^ b i) := rfl
    have hu : unitAt l i = if flg l i = true then some (i, [92, c]) else if c = 92 then (if i + 1 = l.length then some (i, [92]) else none) else some (i, [c]) := by unfold unitAt; rw [hg]
    have hr16 : i + 1 = l.length ↔ r = [] := by
      rw [hl]
      constructor
      · intro e; exact List.length_eq_zero_iff.mp (by rw [hrl, e])
      · intro e; exact Nat.le_antisymm hi16 (Nat.sub_eq_zero_iff_le.mp (by rw [← hrl, e]; rfl))
    rw [if_neg (show ¬ (c :: r = [] ∧ flg l i = true) from fun h => by cases h.1), List.append_nil]
    cases hmi : mk l i with
    | false =>
      have hbi : b i = false := f1 i (by rw [← hm i hi16]; exact hmi)
      rw [hbi] at ho
      rw [ho, Bool.xor_false, hf] at ih1 ih2
      rw [hmk] at hmi
      constructor
      · rw [vis, hmi, if_neg (by simp), ih1, hbi]
        cases opn b i <;> simp [hg']
      · rw [vtoks, hmi, if_neg (by simp), ih2, hbi, hu]
        cases hoi : opn b i with
        | true =>
          by_cases hr : r = []
          · exfalso
            have := (nolater (by rw [hr]; simp [hasm])).2
            rw [hbi, hoi] at this; cases this
          · simp [hr]
        | false =>
          cases hfi : flg l i with
          | true => simp
          | false =>
            by_cases h92 : c = 92
            · by_cases hr : r = []
              · have := hr16.mpr hr
                simp [h92, hr, this]
              · have : ¬ i + 1 = l.length := fun q => hr (hr16.mp q)
                simp [h92, hr, this]
            · simp [h92]
    | true =>
      have hMi : M.testBit i = true := by rw [← hm i hi16]; exact hmi
      rw [hmk] at hmi
      have hfi : flg l i = false := by cases hq : flg l i with | false => rfl | true => rw [hq] at hmi; simp at hmi
      have hc : c = 34 := by rw [hfi] at hmi; simpa using hmi
      have hf1 : flg l (i + 1) = false := by rw [hf, hfi, hc]; rfl
      rw [hf1] at ih1 ih2 later nolater
      rw [ho] at ih1 ih2
      simp only [Bool.false_eq_true, and_false, if_false, List.append_nil] at ih2
      cases hoi : opn b i with
      | true =>
        have hbi : b i = true := by
          by_cases hx : hasm false r = true
          · exact later hx hMi
          · rw [(nolater hx).2]; exact hoi
        rw [hoi, hbi] at ih1 ih2
        constructor
        · rw [vis, hmi, if_pos rfl, if_pos rfl]; simpa using ih1
        · rw [vtoks, hmi, if_pos rfl, if_pos rfl]; simpa using ih2
      | false =>
        by_cases hx : hasm false r = true
        · have hbi : b i = true := later hx hMi
          rw [hoi, hbi] at ih1 ih2
          constructor
          · rw [vis, hmi, if_pos rfl, if_neg (by simp), if_pos hx]; simpa [hbi] using ih1
          · rw [vtoks, hmi, if_pos rfl, if_neg (by simp), if_pos hx]; simpa [hbi] using ih2
        · obtain ⟨n1, n2⟩ := nolater hx
          rw [hoi] at n2
          have hz : ∀ j ∈ List.range' (i + 1) r.length, (hidden M).testBit j = false := by
            intro j hj
            obtain ⟨j1, j2⟩ := List.mem_range'_1.mp hj
            have j3 : j < 16 := by rw [hrl, Nat.add_sub_of_le hi16] at j2; exact j2
            rw [hh' j j3, n1 j j1 j3]
            obtain ⟨d, rfl⟩ : ∃ d, j = i + 1 + d := ⟨j - (i + 1), (Nat.add_sub_of_le j1).symm⟩
            rw [opn_flat (b := b) (k := i + 1) d fun j' h1 h2 => n1 j' h1 (Nat.lt_trans h2 j3), ho, hoi, n2]; rfl
          constructor
          · rw [vis, hmi, if_pos rfl, if_neg (by simp), if_neg hx, n2]
            have e : (List.range' (i + 1) r.length).filter (fun k => !(hidden M).testBit k) = List.range' (i + 1) r.length := by
              rw [List.filter_eq_self]
              intro j hj; rw [hz j hj]; rfl
            rw [e]
            rw [if_pos (by rfl), List.map_cons, hg, range'_map_getD l r (i + 1) hd]
          · rw [vtoks, hmi, if_pos rfl, if_neg (by simp), if_neg hx, n2, ← hfi, toks_at l r c i h, List.length_cons, List.range'_succ, List.filterMap_cons]
            have e : (List.range' (i + 1) r.length).filterMap (fun k => if (hidden M).testBit k = true then none else (unitAt l k).map (·.2)) = (List.range' (i + 1) r.length).filterMap (fun k => (unitAt l k).map (·.2)) :=
              fm_congr fun j hj => by rw [hz j hj]; rfl
            rw [e, hu, hfi]; simp [hc]
theorem strip_idx : strip l = ((List.range 16).filter fun k => !(hidden M).testBit k).map (fun k => l.getD k 0) := by
  have := (vis_idx hl hM hm l 0 rfl (by decide)).1
  rw [strip_vis, List.range_eq_range', ← hl]
  exact this
theorem units_idx : (units (strip l)).map (·.2) = (List.range 16).filterMap fun k => if (hidden M).testBit k = true then none else (unitAt l k).map (·.2) := by
  have := (vis_idx hl hM hm l 0 rfl (by decide)).2
  rw [toks_strip, List.range_eq_range', ← hl]
  rw [if_neg (by simp [flg]), List.append_nil] at this
  exact this
end
end Pm

end
section
open PySem PySem.Calls PyProof.Rows
set_option Elab.async false
set_option linter.unusedVariables false
namespace Pm
/-- the count over brackets: n are open -/
def bal : Nat → List Nat → Bool
  | n, [] => n == 0
  | n, c :: r => if c = 40 then bal (n + 1) r else if c = 41 then (match n with | 0 => false | n + 1 => bal n r) else bal n r
def Eqv (x y : List Nat) : Prop := ∀ n v, bal n (x ++ v) = bal n (y ++ v)
theorem Eqv.cons {x y : List Nat} (c : Nat) (h : Eqv x y) : Eqv (c :: x) (c :: y) := fun n v => by
  simp only [List.cons_append, bal, h (n + 1) v, h n v]
  cases n with
  | zero => rfl
  | succ n => simp only [h n v]
theorem Eqv.app {x y : List Nat} (h : Eqv x y) : ∀ u : List Nat, Eqv (u ++ x) (u ++ y)
  | [] => h
  | c :: u => Eqv.cons c (Eqv.app h u)
theorem Eqv.trans {x y z : List Nat} (h : Eqv x y) (g : Eqv y z) : Eqv x z := fun n v => (h n v).trans (g n v)
theorem Eqv.pair (y : List Nat) : Eqv (40 :: 41 :: y) y := fun n v => by simp [bal]
open StrLaws in
theorem parts_eqv (w : List Nat) : ∀ (cuts : List Nat) (a f : Nat), ChainTo (S w) (S [40, 41]) w.length a cuts f →
    Eqv (w.drop a) (((partsFrom (S w) 2 a cuts).map fun p => p.cps.toList).flatten) ∧ (((partsFrom (S w) 2 a cuts).map fun p => p.cps.toList).flatten).length + 2 * cuts.length = (w.drop a).length ∧ ∀ c ∈ ((partsFrom (S w) 2 a cuts).map fun p => p.cps.toList).flatten, c ∈ w
  | [], a, f, _ => by
    have e : ((partsFrom (S w) 2 a []).map fun p => p.cps.toList).flatten = w.drop a := by
      show [(Builtin.Str.strSub (S w) a (S w).length).cps.toList].flatten = _
      rw [List.flatten_cons, List.flatten_nil, List.append_nil, strSub_toList, S_len]
      exact List.take_of_length_le (by simp)
    rw [e]
    exact ⟨fun n v => rfl, by simp, fun c h => List.mem_of_mem_drop h⟩
  | c :: r, a, f, h => by
    obtain ⟨hac, hat, hr⟩ := h
    have hr' : ChainTo (S w) (S [40, 41]) w.length (c + 2) r f := hr
    obtain ⟨h1, h2, h3⟩ := parts_eqv w r (c + 2) f hr'
    have hc2 : c + 2 ≤ w.length := hat.1
    have hsub : (w.drop c).take 2 = [40, 41] := by
      have := hat.2
      rw [subAt_eq] at this
      exact beq_iff_eq.mp this
    have e1 : w.drop c = 40 :: 41 :: w.drop (c + 2) := by
      have := List.take_append_drop 2 (w.drop c)
      rw [hsub, List.drop_drop] at this
      exact this.symm
    have e2 : w.drop a = (w.drop a).take (c - a) ++ w.drop c := by
      have := List.take_append_drop (c - a) (w.drop a)
      rw [List.drop_drop, show a + (c - a) = c by omega] at this
      exact this.symm
    have e3 : ((partsFrom (S w) 2 a (c :: r)).map fun p => p.cps.toList).flatten = (w.drop a).take (c - a) ++ ((partsFrom (S w) 2 (c + 2) r).map fun p => p.cps.toList).flatten := by
      show ((Builtin.Str.strSub (S w) a c).cps.toList :: (partsFrom (S w) 2 (c + 2) r).map fun p => p.cps.toList).flatten = _
      rw [List.flatten_cons, strSub_toList]
    rw [e3]
    have e6 : (w.drop a).length = ((w.drop a).take (c - a)).length + (2 + (w.drop (c + 2)).length) := by
      conv => lhs; rw [e2, e1]
      rw [List.length_append, List.length_cons, List.length_cons, Nat.add_comm 2]
    generalize ((partsFrom (S w) 2 (c + 2) r).map fun p => p.cps.toList).flatten = g at *
    refine ⟨?_, ?_, fun c' h => ?_⟩
    · rw [e2, e1]
      have e4 : ((w.drop a).take (c - a) ++ 40 :: 41 :: w.drop (c + 2)).take (c - a) = (w.drop a).take (c - a) := by rw [← e1, ← e2]
      rw [e4]
      exact Eqv.app (Eqv.trans (Eqv.pair _) h1) _
    · rw [e6, ← h2, List.length_append, List.length_cons, Nat.mul_succ, Nat.add_assoc, Nat.add_comm 2, Nat.add_assoc]
    · rcases List.mem_append.mp h with h | h
      · exact List.mem_of_mem_drop (List.mem_of_mem_take h)
      · exact h3 c' h
open StrLaws in
theorem rep_facts (w : List Nat) : Eqv w (rep w) ∧ (∀ c ∈ rep w, c ∈ w) ∧ ((rep w = w ∧ ∀ u v, w ≠ u ++ 40 :: 41 :: v) ∨ ((rep w).length + 2 ≤ w.length ∧ ∃ u v, w = u ++ 40 :: 41 :: v)) := by
  obtain ⟨f, hch⟩ := occ_chain (S w) (S [40, 41]) ((S w).length + 1)
  obtain ⟨f', hg, hn⟩ := occ_tight (S w) (S [40, 41]) (by decide)
  unfold rep Txt.replace
  generalize Builtin.Str.occurrences (S w) (S [40, 41]) 0 (S w).length ((S w).length + 1) = occ at *
  have hlen : (S [40, 41]).length = 2 := rfl
  cases occ with
  | nil =>
    rw [if_pos (by rfl)]
    refine ⟨fun n v => rfl, fun c h => h, .inl ⟨rfl, fun u v e => ?_⟩⟩
    have hf : f' = 0 := hg
    refine hn u.length (by omega) ⟨?_, ?_⟩
    · show u.length + 2 ≤ (S w).length
      rw [S_len, e]; simp
    · rw [subAt_eq]
      show ((w.drop u.length).take 2 == [40, 41]) = true
      rw [e]; simp
  | cons c r =>
    rw [if_neg (by simp [hlen])]
    rw [partsBetween_eq, hlen]
    have hch' : ChainTo (S w) (S [40, 41]) w.length 0 (c :: r) f := by rw [S_len] at hch; exact hch
    obtain ⟨h1, h2, h3⟩ := parts_eqv w (c :: r) 0 f hch'
    have e : (Builtin.Str.glued (S []) (partsFrom (S w) 2 0 (c :: r))).cps.toList = ((partsFrom (S w) 2 0 (c :: r)).map fun p => p.cps.toList).flatten := by
      have e1 : partsFrom (S w) 2 0 (c :: r) = ((partsFrom (S w) 2 0 (c :: r)).map fun p => p.cps.toList).map S := by
        rw [List.map_map]; exact (List.map_id'' (fun p => by simp) _).symm
      have := join_S [] ((partsFrom (S w) 2 0 (c :: r)).map fun p => p.cps.toList)
      rw [← e1, joinL_nil] at this
      exact congrArg (fun p : Str => p.cps.toList) this
    rw [e]
    refine ⟨h1, h3, .inr ⟨?_, w.take c, w.drop (c + 2), ?_⟩⟩
    · simp at h2 ⊢; omega
    · have hsub : (w.drop c).take 2 = [40, 41] := by
        have := hch'.2.1.2
        rw [subAt_eq] at this
        exact beq_iff_eq.mp this
      have := List.take_append_drop 2 (w.drop c)
      rw [hsub, List.drop_drop] at this
      have e5 := List.take_append_drop c w
      rw [← this] at e5
      exact e5.symm
theorem reps_facts (w : List Nat) : ∀ n, Eqv w (reps n w) ∧ (∀ c ∈ reps n w, c ∈ w) ∧ ((∀ u v, reps n w ≠ u ++ 40 :: 41 :: v) ∨ (reps n w).length + 2 * n ≤ w.length) ∧ (reps n w).length ≤ w.length
  | 0 => ⟨fun n v => rfl, fun c h => h, .inr (Nat.le_refl _), Nat.le_refl _⟩
  | n + 1 => by
    obtain ⟨h1, h2, h3, h4⟩ := reps_facts w n
    obtain ⟨g1, g2, g3⟩ := rep_facts (reps n w)
    show Eqv w (rep (reps n w)) ∧ (∀ c ∈ rep (reps n w), c ∈ w) ∧ ((∀ u v, rep (reps n w) ≠ u ++ 40 :: 41 :: v) ∨ (rep (reps n w)).length + 2 * (n + 1) ≤ w.length) ∧ (rep (reps n w)).length ≤ w.length
    refine ⟨h1.trans g1, fun c h => h2 c (g2 c h), ?_, ?_⟩
    · rcases g3 with ⟨e, hi⟩ | ⟨hl, u, v, hw⟩
      · rw [e]; exact .inl hi
      · rcases h3 with hi | hl'
        · exact absurd hw (hi u v)
        · exact .inr (by omega)
    · rcases g3 with ⟨e, hi⟩ | ⟨hl, _⟩
      · rw [e]; exact h4
      · omega
/-- a word without a pair: first the closing ones, then the opening ones -/
theorem irr_shape : ∀ w : List Nat, (∀ c ∈ w, c = 40 ∨ c = 41) → (∀ u v, w ≠ u ++ 40 :: 41 :: v) → ∃ a b, w = List.replicate a 41 ++ List.replicate b 40
  | [], _, _ => ⟨0, 0, rfl⟩
  | c :: r, h, hi => by
    obtain ⟨a, b, e⟩ := irr_shape r (fun x hx => h x (by simp [hx])) fun u v e => hi (c :: u) v (by rw [e]; rfl)
    rcases h c (by simp) with rfl | rfl
    · cases a with
      | zero => exact ⟨0, b + 1, by rw [e]; simp [List.replicate_succ]⟩
      | succ a => exact absurd (by rw [e]; simp [List.replicate_succ]) (hi [] (List.replicate a 41 ++ List.replicate b 40))
    · exact ⟨a + 1, b, by rw [e]; simp [List.replicate_succ]⟩
theorem bal_open : ∀ (a n : Nat) (v : List Nat), bal n (List.replicate a 40 ++ v) = bal (n + a) v
  | 0, n, v => by simp
  | a + 1, n, v => by
    rw [List.replicate_succ, List.cons_append]
    show bal (n + 1) _ = _
    rw [bal_open a (n + 1) v]; congr 1; omega
theorem bal_close : ∀ (a n : Nat) (v : List Nat), bal (n + a) (List.replicate a 41 ++ v) = bal n v
  | 0, n, v => by simp
  | a + 1, n, v => by
    rw [List.replicate_succ, List.cons_append]
    show bal (n + a) _ = _
    exact bal_close a n v
theorem word_laws (w : List Nat) (hl : w.length ≤ 16) (hw : ∀ c ∈ w, c = 40 ∨ c = 41) :
    bal 0 w = decide (reps 8 w = []) ∧ bal 0 (List.replicate ((reps 8 w).count 41) 40 ++ w ++ List.replicate ((reps 8 w).count 40) 41) = true ∧
    bal 0 (List.replicate ((reps 8 w).count 41) 40 ++ w ++ List.replicate ((reps 8 w).count 40) 41 ++ [41]) = false ∧
    bal 0 (40 :: (List.replicate ((reps 8 w).count 41) 40 ++ w ++ List.replicate ((reps 8 w).count 40) 41)) = false := by
  obtain ⟨h1, h2, h3, _⟩ := reps_facts w 8
  generalize reps 8 w = x at *
  have hi : ∀ u v, x ≠ u ++ 40 :: 41 :: v := by
    rcases h3 with h | h
    · exact h
    · have : x = [] := List.length_eq_zero_iff.mp (by omega)
      intro u v e; rw [this] at e; simp at e
  obtain ⟨a, b, rfl⟩ := irr_shape x (fun c hc => hw c (h2 c hc)) hi
  have c1 : (List.replicate a 41 ++ List.replicate b 40).count 41 = a := by simp [List.count_append, List.count_replicate]
  have c2 : (List.replicate a 41 ++ List.replicate b 40).count 40 = b := by simp [List.count_append, List.count_replicate]
  rw [c1, c2]
  have key : ∀ n v, bal n (List.replicate a 40 ++ w ++ List.replicate b 41 ++ v) = bal n v := by
    intro n v
    rw [List.append_assoc, List.append_assoc, bal_open, h1, List.append_assoc, bal_close, bal_open, bal_close]
  refine ⟨?_, ?_, ?_, ?_⟩
  · have := h1 0 []
    rw [List.append_nil, List.append_nil] at this
    rw [this]
    cases a with
    | zero =>
      have := bal_open b 0 []
      rw [List.append_nil] at this
      simp only [List.replicate_zero, List.nil_append, this]
      cases b with
      | zero => rfl
      | succ b => simp [bal, List.replicate_succ]
    | succ a => simp [bal, List.replicate_succ]
  · have := key 0 []
    rw [List.append_nil] at this
    exact this
  · exact key 0 [41]
  · show bal 1 _ = false
    have := key 1 []
    rw [List.append_nil] at this
    rw [this]; rfl
end Pm

end
section
open PySem PySem.Calls PyProof.Rows
set_option Elab.async false
set_option linter.unusedVariables false
set_option linter.unusedSectionVars false
namespace Pm
theorem sum_bits : ∀ (n m : Nat), m < 2 ^ n → (((List.range n).filter m.testBit).map fun k => 2 ^ k).sum = m
  | 0, m, h => by simp at h; subst h; rfl
  | n + 1, m, h => by
    have e : (List.range n).filter m.testBit = (List.range n).filter (m % 2 ^ n).testBit := List.filter_congr fun k hk => by
      rw [Nat.testBit_mod_two_pow]; simp [List.mem_range.mp hk]
    have ih := sum_bits n (m % 2 ^ n) (Nat.mod_lt _ (Nat.pow_pos (by decide)))
    have hd := Nat.div_add_mod m (2 ^ n)
    have hlt : m / 2 ^ n < 2 := by rw [Nat.div_lt_iff_lt_mul (Nat.pow_pos (by decide))]; rw [Nat.pow_succ] at h; omega
    rw [List.range_succ, List.filter_append, List.map_append, List.sum_append, e, ih]
    have hb := bit_div m n
    rw [Nat.mod_eq_of_lt hlt] at hb
    cases ht : m.testBit n with
    | true => rw [ht] at hb; have hb' : m / 2 ^ n = 1 := hb; rw [hb'] at hd; simp [ht]; omega
    | false => rw [ht] at hb; have hb' : m / 2 ^ n = 0 := hb; rw [hb'] at hd; simp [ht]; omega
section
variable (f s : Nat)
def rmark : Nat := f - (f &&& s) - ((f - (f &&& s)) &&& rtaken f s)
theorem rmark_bit (k : Nat) : (rmark f s).testBit k = (f.testBit k && !s.testBit k && !(rtaken f s).testBit k) := by
  unfold rmark; rw [testBit_sub_and, testBit_sub_and]
theorem rhid_eq : rhid f s = hidden (rmark f s) := rfl
end
section
variable {f s : Nat} (hf : f < 65536) (hs : s < 65536)
theorem rmark_lt {f s : Nat} (hf : f < 65536) : rmark f s < 65536 := Nat.lt_of_le_of_lt (Nat.sub_le _ _) (Nat.lt_of_le_of_lt (Nat.sub_le _ _) hf)
include hf in
theorem rtaken_lt : rtaken f s < 131072 := by
  have h1 := (taken_eq (f &&& s) (and_lt' hf)).2
  have h2 : taken (f &&& s) / 2 < 65536 := h1 ▸ Nat.lt_of_le_of_lt (Nat.sub_le _ _) (and_lt' hf)
  exact (Nat.div_lt_iff_lt_mul (by decide)).mp h2
theorem text_len16 : (rtext f s).length = 16 := by simp [rtext]
theorem named_len16 : (rnamed f s).length = 16 := by simp [rnamed]
include hf in
theorem named_at {k : Nat} (hk : k < 16) : (rnamed f s).getD k 0 = if f.testBit k = true then (rtext f s).getD k 0 else 97 + k := by
  unfold rnamed
  rw [List.getD_eq_getElem?_getD, List.getElem?_map, List.getElem?_range hk]
  show (if (lbits f).getD k 0 = 1 then (rtext f s).getD k 0 else 97 + k) = _
  rw [lbits_bit hf hk]
  cases f.testBit k <;> rfl
include hf hs
theorem named_sgn {k : Nat} (hk : k < 16) : (rnamed f s).getD k 0 = if f.testBit k = true then (if s.testBit k = true then 92 else 34) else 97 + k := by
  rw [named_at hf hk, text_sgn hf hs hk]
  cases f.testBit k <;> rfl
theorem named_bs {k : Nat} (hk : k < 16) : ((rnamed f s).getD k 0 == 92) = ((rtext f s).getD k 0 == 92) := by
  rw [named_sgn hf hs hk, text_sgn hf hs hk]
  cases f.testBit k
  · cases s.testBit k
    · simp [sgn]; omega
    · simp [sgn]; omega
  · cases s.testBit k <;> rfl
theorem named_flg : ∀ k, k ≤ 16 → flg (rnamed f s) k = (rtaken f s).testBit k
  | 0, _ => (taken_zero _ (and_lt' hf)).symm
  | k + 1, h => by
    rw [← text_flg hf hs (k + 1) h]
    show (!flg (rnamed f s) k && ((rnamed f s).getD k 0 == 92)) = (!flg (rtext f s) k && ((rtext f s).getD k 0 == 92))
    rw [named_bs hf hs (by omega), named_flg k (by omega), text_flg hf hs k (by omega)]
theorem text_mk (k : Nat) (hk : k < 16) : mk (rtext f s) k = (rmark f s).testBit k := by
  unfold mk
  rw [text_flg hf hs k (by omega), text_sgn hf hs hk, rmark_bit]
  cases f.testBit k <;> cases s.testBit k <;> simp [sgn]
theorem named_mk (k : Nat) (hk : k < 16) : mk (rnamed f s) k = (rmark f s).testBit k := by
  unfold mk
  rw [named_flg hf hs k (by omega), named_sgn hf hs hk, rmark_bit]
  cases f.testBit k <;> cases s.testBit k <;> simp <;> omega
theorem left_ok : strip (rtext f s) = rleft f s := by
  rw [strip_idx text_len16 (rmark_lt hf) (text_mk hf hs)]
  unfold rleft
  rw [rhid_eq]
  congr 1
  refine List.filter_congr fun k hk => ?_
  rw [bit_div]
  cases (hidden (rmark f s)).testBit k <;> rfl
theorem mem_units (u : List Nat) : u ∈ runits f s ↔ ∃ k, k < 16 ∧ (rhid f s).testBit k = false ∧ (unitAt (rnamed f s) k).map (·.2) = some u := by
  unfold runits
  rw [units_idx named_len16 (rmark_lt hf) (named_mk hf hs), List.mem_filterMap, ← rhid_eq]
  constructor
  · rintro ⟨k, hk, h⟩
    by_cases hh : (rhid f s).testBit k = true
    · rw [if_pos hh] at h; cases h
    · rw [if_neg hh] at h; exact ⟨k, List.mem_range.mp hk, by simpa using hh, h⟩
  · rintro ⟨k, hk, hh, h⟩
    exact ⟨k, List.mem_range.mpr hk, by rw [if_neg (by simp [hh])]; exact h⟩
theorem brk_bit {k : Nat} (hk : k < 16) : (rbr f).testBit k = !f.testBit k := by
  have e : rbr f = 2 ^ 16 - (f + 1) := (Nat.succ_sub_succ 65535 f).symm
  rw [e, Nat.testBit_two_pow_sub_succ (show f < 2 ^ 16 from hf)]
  simp [hk]
theorem seen_bit {k : Nat} (hk : k < 16) : (rseen f s).testBit k = (!f.testBit k && !(rtaken f s).testBit k && !(rhid f s).testBit k) := by
  unfold rseen
  rw [testBit_sub_and, Nat.testBit_or, brk_bit hf hs hk]
  cases f.testBit k <;> cases (rtaken f s).testBit k <;> cases (rhid f s).testBit k <;> rfl
theorem kept_bit {k : Nat} (hk : k < 16) : (rkept f s).testBit k = (!f.testBit k && (rtaken f s).testBit k && !(rhid f s).testBit k) := by
  unfold rkept
  rw [testBit_sub_and, Nat.testBit_and, brk_bit hf hs hk]
theorem unit_named {k : Nat} (hk : k < 16) : (unitAt (rnamed f s) k).map (·.2) = if (rtaken f s).testBit k = true then some [92, (rnamed f s).getD k 0] else if (rnamed f s).getD k 0 = 92 then (if k = 15 then some [92] else none) else some [(rnamed f s).getD k 0] := by
  unfold unitAt
  rw [named_flg hf hs k (by omega), named_len16]
  have e : (k + 1 = 16) = (k = 15) := by simp
  simp only [e]
  split
  · rfl
  · split
    · split <;> rfl
    · rfl
theorem mem_plain {k : Nat} (hk : k < 16) : decide ([97 + k] ∈ runits f s) = (rseen f s).testBit k := by
  rw [seen_bit hf hs hk, Bool.eq_iff_iff, decide_eq_true_iff, mem_units hf hs]
  constructor
  · rintro ⟨j, hj, hh, h⟩
    rw [unit_named hf hs hj, named_sgn hf hs hj] at h
    cases ht : (rtaken f s).testBit j with
    | true => rw [ht] at h; simp at h
    | false =>
      rw [ht] at h
      cases hfj : f.testBit j with
      | true =>
        rw [hfj] at h
        cases hsj : s.testBit j with
        | false => rw [hsj] at h; simp at h; omega
        | true => rw [hsj] at h; by_cases h15 : j = 15 <;> simp [h15] at h; omega
      | false =>
        rw [hfj] at h
        have : ¬ 97 + j = 92 := by omega
        simp [this] at h
        subst h; simp [ht, hfj, hh]
  · intro h
    simp at h
    refine ⟨k, hk, h.2, ?_⟩
    rw [unit_named hf hs hk, named_sgn hf hs hk]
    have : ¬ 97 + k = 92 := by omega
    simp [h.1.1, h.1.2, this]
theorem mem_esc {k : Nat} (hk : k < 16) : decide ([92, 97 + k] ∈ runits f s) = (rkept f s).testBit k := by
  rw [kept_bit hf hs hk, Bool.eq_iff_iff, decide_eq_true_iff, mem_units hf hs]
  constructor
  · rintro ⟨j, hj, hh, h⟩
    rw [unit_named hf hs hj, named_sgn hf hs hj] at h
    cases ht : (rtaken f s).testBit j with
    | false =>
      rw [ht] at h
      rw [if_neg (by simp)] at h
      generalize (if f.testBit j = true then if s.testBit j = true then 92 else 34 else 97 + j) = c at h
      by_cases hc : c = 92
      · by_cases h15 : j = 15 <;> simp [hc, h15] at h
      · simp [hc] at h
    | true =>
      rw [ht] at h
      cases hfj : f.testBit j with
      | true =>
        rw [hfj] at h
        cases hsj : s.testBit j with
        | false => rw [hsj] at h; simp at h; omega
        | true => rw [hsj] at h; simp at h; omega
      | false =>
        rw [hfj] at h
        simp at h
        subst h; simp [ht, hfj, hh]
  · intro h
    simp at h
    refine ⟨k, hk, h.2, ?_⟩
    rw [unit_named hf hs hk, named_sgn hf hs hk]
    simp [h.1.1, h.1.2]
theorem br_lt : rbr f < 65536 := Nat.lt_of_le_of_lt (Nat.sub_le _ _) (by decide)
theorem seen_lt : rseen f s < 65536 := Nat.lt_of_le_of_lt (Nat.sub_le _ _) (br_lt hf hs)
theorem kept_lt : rkept f s < 65536 := Nat.lt_of_le_of_lt (Nat.sub_le _ _) (Nat.lt_of_le_of_lt Nat.and_le_left (br_lt hf hs))
theorem listed_eq : rlisted f s = 65536 + rseen f s := by
  unfold rlisted
  congr 1
  have e : ((List.range 16).filter fun k => decide ([97 + k] ∈ runits f s)) = (List.range 16).filter (rseen f s).testBit :=
    List.filter_congr fun k hk => mem_plain hf hs (List.mem_range.mp hk)
  rw [e, sum_bits 16 _ (seen_lt hf hs)]
theorem esc_eq : resc f s = rkept f s := by
  unfold resc
  have e : ((List.range 16).filter fun k => decide ([92, 97 + k] ∈ runits f s)) = (List.range 16).filter (rkept f s).testBit :=
    List.filter_congr fun k hk => mem_esc hf hs (List.mem_range.mp hk)
  rw [e, sum_bits 16 _ (kept_lt hf hs)]
omit hf hs in
theorem fmode_over (x : Nat) (hx : x < 65536) : fmode (65536 + x) = lrow x := by
  rw [← fmode_row x hx, fmode_low, fmode_low x]
  have e1 : (65536 + x) % 4096 = x % 4096 := Nat.mul_add_mod 4096 16 x
  have e2 : (65536 + x) &&& 61440 = x &&& 61440 := by rw [and_high, and_high, Nat.add_mod_left]
  rw [e1]
  congr 1
  unfold pick fits
  simp only [if_pos, e2]
theorem rows_ok : fmode (rlisted f s) = lrow (rseen f s) := by rw [listed_eq hf hs]; exact fmode_over _ (seen_lt hf hs)
theorem ifmt_ok : rlisted f s &&& 61440 = rseen f s / 4096 * 4096 := by
  have := seen_lt hf hs
  rw [listed_eq hf hs, and_high, Nat.add_mod_left, Nat.mod_eq_of_lt this]
theorem imode_ok : rlisted f s &&& 4095 = rseen f s % 4096 := by
  rw [listed_eq hf hs, and_4095]; exact Nat.mul_add_mod 4096 16 _
theorem kept_ok : fmode (resc f s) = lrow (rkept f s) := by rw [esc_eq hf hs]; exact fmode_row _ (kept_lt hf hs)
end
end Pm

end
section
open PySem PySem.Calls PyProof.Rows
set_option Elab.async false
set_option linter.unusedVariables false
set_option linter.unusedSectionVars false
namespace Pm
def brk (t : List Nat) : Option Nat := if t = [40] then some 40 else if t = [41] then some 41 else none
theorem chk_cons (n : Nat) (u : Nat × List Nat) (us : List (Nat × List Nat)) : chk n (u :: us) = if u.2 = [40] then chk (n + 1) us else if u.2 = [41] then (match n with | 0 => false | n + 1 => chk n us) else chk n us := by cases n <;> rfl
theorem toks_cons (e : Bool) (c : Nat) (r : List Nat) : toks e (c :: r) = if e = true then [92, c] :: toks false r else if c = 92 then toks true r else [c] :: toks false r := rfl
theorem vtoks_cons (e o : Bool) (c : Nat) (r : List Nat) : vtoks e o (c :: r) = if (!e && c == 34) = true then (if o = true then vtoks false false r else if hasm false r = true then vtoks false true r else toks false (c :: r)) else (if o = true then [] else if e = true then [[92, c]] else if c = 92 then [] else [[c]]) ++ vtoks (!e && c == 92) o r := rfl
theorem hasm_cons (e : Bool) (c : Nat) (r : List Nat) : hasm e (c :: r) = ((!e && c == 34) || hasm (!e && c == 92) r) := rfl
theorem chk_bal : ∀ (us : List (Nat × List Nat)) (n : Nat), chk n us = bal n ((us.map (·.2)).filterMap brk)
  | [], n => rfl
  | u :: us, n => by
    rw [chk_cons, List.map_cons, List.filterMap_cons]
    by_cases h40 : u.2 = [40]
    · rw [if_pos h40, chk_bal us (n + 1)]; simp [brk, h40, bal]
    · rw [if_neg h40]
      by_cases h41 : u.2 = [41]
      · rw [if_pos h41]
        cases n with
        | zero => simp [brk, h41, bal]
        | succ n => simp [brk, h41, bal, chk_bal us n]
      · rw [if_neg h41, chk_bal us n]; simp [brk, h40, h41]
theorem nf : ¬ (false = true) := by simp
def bw (e o : Bool) (l : List Nat) : List Nat := (vtoks e o l).filterMap brk
theorem check_bw (l : List Nat) : check l = bal 0 (bw false false l) := by unfold check bw; rw [chk_bal, toks_strip]
def fe : Bool → List Nat → Bool
  | e, [] => e
  | e, c :: r => fe (!e && c == 92) r
theorem hasm_app (n : Nat) : ∀ (l : List Nat) (e : Bool), hasm e (l ++ List.replicate n 41) = hasm e l
  | [], e => by
    induction n generalizing e with
    | zero => rfl
    | succ n ih =>
      show hasm e (41 :: List.replicate n 41) = false
      rw [hasm_cons]
      have := ih (!e && 41 == 92)
      rw [List.nil_append] at this
      rw [this]; simp [hasm]
  | c :: r, e => by
    show hasm e (c :: (r ++ List.replicate n 41)) = hasm e (c :: r)
    rw [hasm_cons, hasm_cons, hasm_app n r]
theorem toks_rep : ∀ (n : Nat), (toks false (List.replicate n 41)).filterMap brk = List.replicate n 41
  | 0 => rfl
  | n + 1 => by
    rw [List.replicate_succ, toks_cons, if_neg nf, if_neg (by decide), List.filterMap_cons, toks_rep n]; simp [brk]
theorem vtoks_rep : ∀ (n : Nat), (vtoks false false (List.replicate n 41)).filterMap brk = List.replicate n 41
  | 0 => rfl
  | n + 1 => by
    have ih := vtoks_rep n
    rw [List.replicate_succ, vtoks_cons]
    simp only [Bool.not_false, Bool.true_and]
    rw [if_neg (by decide), if_neg nf, if_neg nf, if_neg (by decide), List.cons_append, List.nil_append, List.filterMap_cons, show ((41 : Nat) == 92) = false from rfl, ih]; simp [brk]
theorem toks_app (n : Nat) : ∀ (l : List Nat) (e : Bool), (toks e (l ++ List.replicate n 41)).filterMap brk = (toks e l).filterMap brk ++ List.replicate (n - (fe e l).toNat) 41
  | [], e => by
    cases e with
    | false => rw [List.nil_append, toks_rep]; simp [toks, fe]
    | true =>
      cases n with
      | zero => simp [toks, fe, brk]
      | succ n =>
        rw [List.nil_append, List.replicate_succ, toks_cons, if_pos rfl, List.filterMap_cons, toks_rep]
        simp [toks, fe, brk]
  | c :: r, e => by
    show (toks e (c :: (r ++ List.replicate n 41))).filterMap brk = _
    rw [toks_cons, toks_cons]
    cases e with
    | true =>
      rw [if_pos rfl, if_pos rfl, List.filterMap_cons, List.filterMap_cons, toks_app n r]
      simp [brk, fe]
    | false =>
      rw [if_neg nf, if_neg nf]
      by_cases h92 : c = 92
      · rw [if_pos h92, if_pos h92, toks_app n r]; simp [fe, h92]
      · have h92' : (c == 92) = false := by simp [h92]
        rw [if_neg h92, if_neg h92, List.filterMap_cons, List.filterMap_cons, toks_app n r]
        simp only [fe, h92', Bool.not_false, Bool.and_false]
        cases brk [c] <;> rfl
theorem bw_app (n : Nat) : ∀ (l : List Nat) (e o : Bool), (o = true → hasm e l = true) → bw e o (l ++ List.replicate n 41) = bw e o l ++ List.replicate (n - (fe e l).toNat) 41
  | [], e, o, h => by
    cases o with
    | true => simp [hasm] at h
    | false =>
      unfold bw
      cases e with
      | false => rw [List.nil_append, vtoks_rep]; simp [vtoks, fe]
      | true =>
        cases n with
        | zero => simp [vtoks, fe, brk]
        | succ n =>
          rw [List.nil_append, List.replicate_succ, vtoks_cons]
          simp only [Bool.not_true, Bool.false_and]
          rw [if_neg nf, if_neg nf, if_pos trivial, List.filterMap_append, vtoks_rep]
          simp [vtoks, fe, brk]
  | c :: r, e, o, h => by
    show (vtoks e o (c :: (r ++ List.replicate n 41))).filterMap brk = (vtoks e o (c :: r)).filterMap brk ++ _
    rw [vtoks_cons, vtoks_cons, fe]
    cases hm : (!e && c == 34) with
    | true =>
      have he : e = false := by cases e with | false => rfl | true => simp at hm
      have hc : c = 34 := by rw [he] at hm; simpa using hm
      subst he; subst hc
      rw [if_pos rfl, if_pos rfl]
      cases o with
      | true => exact bw_app n r false false (by simp)
      | false =>
        rw [if_neg nf, if_neg nf, hasm_app]
        by_cases hx : hasm false r = true
        · rw [if_pos hx, if_pos hx]; exact bw_app n r false true (fun _ => hx)
        · rw [if_neg hx, if_neg hx]; exact toks_app n (34 :: r) false
    | false =>
      rw [if_neg nf, if_neg nf, List.filterMap_append, List.filterMap_append, List.append_assoc]
      congr 1
      refine bw_app n r (!e && c == 92) o fun ho => ?_
      have := h ho
      rw [hasm_cons, hm, Bool.false_or] at this
      exact this
theorem fe_flg (l : List Nat) : ∀ (r : List Nat) (i : Nat), l.drop i = r → i ≤ l.length → fe (flg l i) r = flg l l.length
  | [], i, h, hi => by
    have : l.length ≤ i := List.drop_eq_nil_iff.mp h
    have e : i = l.length := by omega
    subst e; rfl
  | c :: r, i, h, hi => by
    obtain ⟨hlt, _, hd⟩ := take_one h
    have hg := drop_getD h
    have hf : flg l (i + 1) = (!flg l i && c == 92) := by rw [← hg]; rfl
    rw [fe, ← hf]
    exact fe_flg l r (i + 1) hd hlt
section
variable {f s : Nat} (hf : f < 65536) (hs : s < 65536)
def word0 (f s : Nat) : List Nat := (ones (rseen f s)).map fun k => (rtext f s).getD k 0
include hf hs
theorem ones_seen : ones (rseen f s) = (List.range 16).filter (rseen f s).testBit := by
  have h16 : (rseen f s).testBit 16 = false := Nat.testBit_lt_two_pow (show rseen f s < 2 ^ 16 from seen_lt hf hs)
  rw [ones_eq, List.range_succ, List.filter_append]
  simp [h16]
theorem word0_eq : word0 f s = (List.range 16).filterMap fun k => if (rseen f s).testBit k = true then some ((rtext f s).getD k 0) else none := by
  unfold word0
  rw [ones_seen hf hs, ← List.filterMap_eq_map, List.filterMap_filter]
  rfl
theorem word0_len : (word0 f s).length ≤ 16 := by
  unfold word0
  rw [List.length_map, ones_seen hf hs]
  exact Nat.le_trans (List.length_filter_le _ _) (by simp)
theorem word0_sgn : ∀ c ∈ word0 f s, c = 40 ∨ c = 41 := by
  intro c hc
  unfold word0 at hc
  rw [ones_seen hf hs] at hc
  obtain ⟨k, hk, rfl⟩ := List.mem_map.mp hc
  obtain ⟨h1, h2⟩ := List.mem_filter.mp hk
  have hk16 := List.mem_range.mp h1
  rw [seen_bit hf hs hk16] at h2
  have hfk : f.testBit k = false := by simp at h2; exact h2.1.1
  rw [text_sgn hf hs hk16, hfk]
  cases s.testBit k
  · exact .inr rfl
  · exact .inl rfl
theorem unit_text {k : Nat} (hk : k < 16) : (unitAt (rtext f s) k).map (·.2) = if (rtaken f s).testBit k = true then some [92, (rtext f s).getD k 0] else if (rtext f s).getD k 0 = 92 then (if k = 15 then some [92] else none) else some [(rtext f s).getD k 0] := by
  unfold unitAt
  rw [text_flg hf hs k (by omega), text_len16]
  have e : (k + 1 = 16) = (k = 15) := by simp
  simp only [e]
  split
  · rfl
  · split
    · split <;> rfl
    · rfl
theorem bw_text : bw false false (rtext f s) = word0 f s := by
  unfold bw
  rw [← toks_strip, units_idx text_len16 (rmark_lt hf) (text_mk hf hs), List.filterMap_filterMap, word0_eq hf hs]
  refine fm_congr fun k hk => ?_
  have hk16 := List.mem_range.mp hk
  rw [seen_bit hf hs hk16, ← rhid_eq, unit_text hf hs hk16, text_sgn hf hs hk16]
  cases (rhid f s).testBit k with
  | true => simp
  | false =>
    cases (rtaken f s).testBit k with
    | true => simp [brk]
    | false =>
      cases f.testBit k <;> cases s.testBit k
      · rfl
      · rfl
      · rfl
      · by_cases h15 : k = 15
        · subst h15; rfl
        · simp [sgn, h15]
theorem text_end : (fe false (rtext f s)).toNat = rtaken f s / 65536 := by
  have h := fe_flg (rtext f s) (rtext f s) 0 rfl (Nat.zero_le _)
  rw [show flg (rtext f s) 0 = false from rfl, text_len16, text_flg hf hs 16 (Nat.le_refl _)] at h
  rw [h, ← bit_div]
  have := rtaken_lt (s := s) hf
  exact Nat.mod_eq_of_lt ((Nat.div_lt_iff_lt_mul (by decide)).mpr this)
theorem whole_bw (n : Nat) : bw false false (List.replicate n 40 ++ rtext f s ++ List.replicate m 41) = List.replicate n 40 ++ word0 f s ++ List.replicate (m - rtaken f s / 65536) 41 := by
  induction n with
  | zero =>
    rw [List.replicate_zero, List.nil_append, List.nil_append, bw_app m (rtext f s) false false (by simp), bw_text hf hs, text_end hf hs]
  | succ n ih =>
    rw [List.replicate_succ, List.cons_append, List.cons_append]
    have e : ∀ l, bw false false (40 :: l) = 40 :: bw false false l := by
      intro l; unfold bw; rw [vtoks_cons]; simp [brk]
    rw [e, ih]; simp
omit hf hs in
theorem flat_one (n c : Nat) : (List.replicate n [c]).flatten = List.replicate n c := by
  induction n with
  | zero => rfl
  | succ n ih => rw [List.replicate_succ, List.flatten_cons, ih]; rfl
theorem plain_ok : Plain f s := by
  obtain ⟨h0, h1, h2, h3⟩ := word_laws (word0 f s) (word0_len hf hs) (word0_sgn hf hs)
  have hw : rword f s = reps 8 (word0 f s) := rfl
  rw [← hw] at h0 h1 h2 h3
  have hwh : rwhole f s = List.replicate ((rword f s).count 41) 40 ++ rtext f s ++ List.replicate ((rword f s).count 40 + rtaken f s / 65536) 41 := by
    unfold rwhole; rw [flat_one, flat_one]
  refine ⟨due_ok hf hs, left_ok hf hs, rows_ok hf hs, ifmt_ok hf hs, imode_ok hf hs, kept_ok hf hs, fun i hi => ?_, ?_, ?_, ?_, ?_⟩
  · have := (reps_facts (word0 f s) i).2.2.2
    have := word0_len hf hs
    show (reps i (word0 f s)).length ≤ 17
    omega
  · rw [check_bw, bw_text hf hs, h0]
  · rw [check_bw, hwh, whole_bw hf hs, Nat.add_sub_cancel]; exact h1
  · rw [check_bw, hwh, List.append_assoc _ _ [41], ← List.replicate_succ', whole_bw hf hs]
    have e : (rword f s).count 40 + rtaken f s / 65536 + 1 - rtaken f s / 65536 = (rword f s).count 40 + 1 := by rw [Nat.add_right_comm, Nat.add_sub_cancel]
    rw [e, List.replicate_succ', ← List.append_assoc]; exact h2
  · rw [check_bw, hwh]
    have e : [40] ++ (List.replicate ((rword f s).count 41) 40 ++ rtext f s ++ List.replicate ((rword f s).count 40 + rtaken f s / 65536) 41) = List.replicate ((rword f s).count 41 + 1) 40 ++ rtext f s ++ List.replicate ((rword f s).count 40 + rtaken f s / 65536) 41 := by
      rw [List.replicate_succ]; simp
    rw [e, whole_bw hf hs, Nat.add_sub_cancel, List.replicate_succ, List.cons_append, List.cons_append]; exact h3
end
end Pm

end
theorem PySem.Challenge.cw_pm0026_01_holds : PySem.Challenge.rw_pm0026_01.Holds :=
  Pm.joined Pm.fmode_row (fun f s hf hs => Pm.plain_ok hf hs)
