import PyProof.Rows.All
import Flt.RightMore
import Flt.Calls5
import Wide.FinOn
import OpenK.AllK
import Wide.All
import Lean
import PySem.Challenge.RW_rs0033_01
set_option Elab.async false
/-! Hd0 -/
section
open PySem PySem.W PyProof.Rows
namespace Mine
set_option maxRecDepth 100000 in
set_option maxHeartbeats 8000000 in
open_top hd for PySem.Challenge.rw_rs0033_01
end Mine
end
/-! MBase -/
section
open PySem PySem.W PyProof.Rows
namespace Mine

/-- plain data -/
inductive D where
  | none
  | bool (b : Bool)
  | int (i : Int)
  | flt (x : UInt64)
  | str (s : Str)
  | list (xs : List D)

/-- no code table -/
def NT (o : Obj) : Prop := ∀ ps, o ≠ { cls := .none, data := .fields ps }
/-- all objects but code tables are kept -/
def KK (h h' : Heap) : Prop := ∀ b o, NT o → h.get? b = some o → h'.get? b = some o
/-- lists are kept -/
def KL (X : Addr → Prop) (h h' : Heap) : Prop := ∀ a items, ¬ X a → h.PlainList a items → h'.PlainList a items

theorem NT.cls {o : Obj} (h : o.cls ≠ .none) : NT o := fun ps e => h (by rw [e])
theorem NT.data {o : Obj} (h : ∀ ps, o.data ≠ .fields ps) : NT o := fun ps e => h ps (by rw [e])

theorem KK.refl (h : Heap) : KK h h := fun _ _ _ e => e
theorem KK.trans {a b c : Heap} (x : KK a b) (y : KK b c) : KK a c := fun p o n e => y p o n (x p o n e)
theorem KK.full {h h' : Heap} (k : ∀ b o, h.get? b = some o → h'.get? b = some o) : KK h h' := fun b o _ e => k b o e
theorem KK.push (h : Heap) (o : Obj) : KK h (h.push o) := KK.full fun _ _ e => Heap.get?_push_of_some o e
theorem KK.ext {h h' : Heap} {a : Addr} (x : Heap.ExtBut a h h') (ha : h.get? a = none) : KK h h' := fun b o _ e => x b o (by rintro rfl; rw [ha] at e; cases e) e
theorem KK.same {h h' : Heap} {a : Addr} (x : Heap.SameBut a h h') (ha : h.get? a = none) : KK h h' := KK.ext x.extBut ha
theorem KK.list {h h' : Heap} (k : KK h h') {a : Addr} {items : Array Value} (x : h.PlainList a items) : h'.PlainList a items := by
  obtain ⟨n, ho⟩ := x
  exact ⟨n, k a _ (NT.cls nofun) ho⟩
theorem KK.kl {X : Addr → Prop} {h h' : Heap} (k : KK h h') : KL X h h' := fun _ _ _ x => k.list x
theorem KK.ns {h h' : Heap} (k : KK h h') {a : Addr} {m : Str → Option Value} (x : h.Ns a m) : h'.Ns a m := by
  obtain ⟨o, es, ep, ho, hd, r⟩ := x
  exact ⟨o, es, ep, k a o (NT.data (by rw [hd]; nofun)) ho, hd, r⟩
theorem KK.cell {h h' : Heap} (k : KK h h') {a : Addr} {v : Option Value} (x : h.IsCell a v) : h'.IsCell a v := by
  obtain ⟨o, ho, hd⟩ := x
  exact ⟨o, k a o (NT.data (by rw [hd]; nofun)) ho, hd⟩
theorem KK.nolimit {h h' : Heap} (k : KK h h') (x : h.NoLimit) : h'.NoLimit := let ⟨mc, a, b⟩ := x; ⟨mc, k.ns a, b⟩
theorem KL.refl {X : Addr → Prop} (h : Heap) : KL X h h := fun _ _ _ x => x
theorem KL.trans {X : Addr → Prop} {a b c : Heap} (x : KL X a b) (y : KL X b c) : KL X a c := fun p i n e => y p i n (x p i n e)
theorem KL.same {X : Addr → Prop} {h h' : Heap} {a : Addr} (hs : Heap.SameBut a h h') (ha : ∀ items, ¬ h.PlainList a items) : KL X h h' := fun b items _ x => x.extBut hs.extBut (by rintro rfl; exact ha _ x)
theorem KL.avoid {X : Addr → Prop} {h h' : Heap} {a : Addr} (hs : Heap.SameBut a h h') (ha : X a) : KL X h h' := fun b items n x => x.extBut hs.extBut (by rintro rfl; exact n ha)
theorem KL.ext {X : Addr → Prop} {h h' : Heap} {a : Addr} (hs : Heap.ExtBut a h h') (ha : ∀ items, ¬ h.PlainList a items) : KL X h h' := fun b items _ x => x.extBut hs (by rintro rfl; exact ha _ x)

theorem not_list_ns {h : Heap} {a : Addr} {m : Str → Option Value} (x : h.Ns a m) (items : Array Value) : ¬ h.PlainList a items := by
  rintro ⟨n, ho⟩
  obtain ⟨o', es, ep, ho', hd', _⟩ := x
  rw [ho] at ho'; cases ho'; cases hd'
theorem not_list_cell {h : Heap} {a : Addr} {v : Option Value} (x : h.IsCell a v) (items : Array Value) : ¬ h.PlainList a items := by
  rintro ⟨n, ho⟩
  obtain ⟨o', ho', hd'⟩ := x
  rw [ho] at ho'; cases ho'; cases hd'

mutual
def Rp (X : Addr → Prop) (h : Heap) (v : Value) : D → Prop
  | .none => v = .none
  | .bool b => v = .bool b
  | .int i => ∃ t, v = .int i t
  | .flt x => ∃ t, v = .float x t
  | .str s => ∃ t, v = .str s t
  | .list xs => ∃ a items, v = .ref a ∧ ¬ X a ∧ h.PlainList a items ∧ RpL X h items.toList xs
def RpL (X : Addr → Prop) (h : Heap) (vs : List Value) : List D → Prop
  | [] => vs = []
  | d :: ds => ∃ v r, vs = v :: r ∧ Rp X h v d ∧ RpL X h r ds
end

mutual
theorem Rp.mono {X : Addr → Prop} {h h' : Heap} (k : KL X h h') : ∀ {d : D} {v : Value}, Rp X h v d → Rp X h' v d
  | .none, _, x => by simpa only [Rp] using x
  | .bool _, _, x => by simpa only [Rp] using x
  | .int _, _, x => by simpa only [Rp] using x
  | .flt _, _, x => by simpa only [Rp] using x
  | .str _, _, x => by simpa only [Rp] using x
  | .list xs, _, x => by
    simp only [Rp] at x ⊢
    obtain ⟨a, items, e, hn, hl, hr⟩ := x
    exact ⟨a, items, e, hn, k _ _ hn hl, RpL.mono k hr⟩
theorem RpL.mono {X : Addr → Prop} {h h' : Heap} (k : KL X h h') : ∀ {ds : List D} {vs : List Value}, RpL X h vs ds → RpL X h' vs ds
  | [], _, x => by simpa only [RpL] using x
  | d :: ds, _, x => by
    simp only [RpL] at x ⊢
    obtain ⟨v, r, e, h1, h2⟩ := x
    exact ⟨v, r, e, Rp.mono k h1, RpL.mono k h2⟩
end

theorem RpL.length {X : Addr → Prop} {h : Heap} : ∀ {ds : List D} {vs : List Value}, RpL X h vs ds → vs.length = ds.length
  | [], _, x => by simp only [RpL] at x; rw [x]; rfl
  | d :: ds, _, x => by
    simp only [RpL] at x
    obtain ⟨v, r, e, _, h2⟩ := x
    rw [e, List.length_cons, List.length_cons, RpL.length h2]
theorem RpL.get {X : Addr → Prop} {h : Heap} : ∀ {ds : List D} {vs : List Value}, RpL X h vs ds → ∀ {i : Nat} {d : D}, ds[i]? = some d → ∃ v, vs[i]? = some v ∧ Rp X h v d
  | [], _, _, i, d, e => by simp at e
  | d :: ds, _, x, i, d', e => by
    simp only [RpL] at x
    obtain ⟨v, r, rfl, h1, h2⟩ := x
    cases i with
    | zero => simp at e; subst e; exact ⟨v, rfl, h1⟩
    | succ j => simp at e ⊢; exact RpL.get h2 e
theorem RpL.get' {X : Addr → Prop} {h : Heap} : ∀ {ds : List D} {vs : List Value}, RpL X h vs ds → ∀ {i : Nat} {v : Value}, vs[i]? = some v → ∃ d, ds[i]? = some d ∧ Rp X h v d
  | [], _, x, i, d, e => by simp only [RpL] at x; subst x; simp at e
  | d :: ds, _, x, i, v', e => by
    simp only [RpL] at x
    obtain ⟨v, r, rfl, h1, h2⟩ := x
    cases i with
    | zero => simp at e; subst e; exact ⟨d, rfl, h1⟩
    | succ j => simp at e ⊢; exact RpL.get' h2 e
theorem RpL.append {X : Addr → Prop} {h : Heap} : ∀ {ds es : List D} {vs ws : List Value}, RpL X h vs ds → RpL X h ws es → RpL X h (vs ++ ws) (ds ++ es)
  | [], _, _, _, x, y => by simp only [RpL] at x; subst x; simpa using y
  | d :: ds, _, _, _, x, y => by
    simp only [RpL] at x
    obtain ⟨v, r, rfl, h1, h2⟩ := x
    simp only [List.cons_append, RpL]
    exact ⟨v, _, rfl, h1, RpL.append h2 y⟩
theorem RpL.one {X : Addr → Prop} {h : Heap} {v : Value} {d : D} (x : Rp X h v d) : RpL X h [v] [d] := by simp only [RpL]; exact ⟨v, [], rfl, x, rfl⟩
theorem RpL.nil {X : Addr → Prop} {h : Heap} : RpL X h [] [] := by simp only [RpL]
theorem RpL.cons {X : Addr → Prop} {h : Heap} {v : Value} {d : D} {vs : List Value} {ds : List D} (x : Rp X h v d) (y : RpL X h vs ds) : RpL X h (v :: vs) (d :: ds) := by
  simp only [RpL]; exact ⟨v, vs, rfl, x, y⟩
theorem RpL.of_get {X : Addr → Prop} {h : Heap} : ∀ {ds : List D} {vs : List Value}, vs.length = ds.length → (∀ (i : Nat) (v : Value) (d : D), vs[i]? = some v → ds[i]? = some d → Rp X h v d) → RpL X h vs ds
  | [], [], _, _ => RpL.nil
  | [], _ :: _, e, _ => by simp at e
  | _ :: _, [], e, _ => by simp at e
  | d :: ds, v :: vs, e, k => RpL.cons (k 0 v d rfl rfl) (RpL.of_get (by simpa using e) fun i v' d' h1 h2 => k (i + 1) v' d' (by simpa using h1) (by simpa using h2))
theorem RpL.take {X : Addr → Prop} {h : Heap} {ds : List D} {vs : List Value} (x : RpL X h vs ds) (n : Nat) : RpL X h (vs.take n) (ds.take n) := by
  refine RpL.of_get (by simp [x.length]) fun i v d h1 h2 => ?_
  rw [List.getElem?_take] at h1 h2
  split at h1
  · rename_i hi; rw [if_pos hi] at h2; obtain ⟨v', e, r⟩ := x.get h2; rw [h1] at e; cases e; exact r
  · cases h1
theorem RpL.drop {X : Addr → Prop} {h : Heap} {ds : List D} {vs : List Value} (x : RpL X h vs ds) (n : Nat) : RpL X h (vs.drop n) (ds.drop n) := by
  refine RpL.of_get (by simp [x.length]) fun i v d h1 h2 => ?_
  rw [List.getElem?_drop] at h1 h2
  obtain ⟨v', e, r⟩ := x.get h2; rw [h1] at e; cases e; exact r

mutual
theorem Rp.avoid {X Y : Addr → Prop} {h : Heap} (k : ∀ a items, ¬ X a → h.PlainList a items → ¬ Y a) : ∀ {d : D} {v : Value}, Rp X h v d → Rp Y h v d
  | .none, _, x => by simpa only [Rp] using x
  | .bool _, _, x => by simpa only [Rp] using x
  | .int _, _, x => by simpa only [Rp] using x
  | .flt _, _, x => by simpa only [Rp] using x
  | .str _, _, x => by simpa only [Rp] using x
  | .list xs, _, x => by
    simp only [Rp] at x ⊢
    obtain ⟨a, items, e, hn, hl, hr⟩ := x
    exact ⟨a, items, e, k _ _ hn hl, hl, RpL.avoid k hr⟩
theorem RpL.avoid {X Y : Addr → Prop} {h : Heap} (k : ∀ a items, ¬ X a → h.PlainList a items → ¬ Y a) : ∀ {ds : List D} {vs : List Value}, RpL X h vs ds → RpL Y h vs ds
  | [], _, x => by simpa only [RpL] using x
  | d :: ds, _, x => by
    simp only [RpL] at x ⊢
    obtain ⟨v, r, e, h1, h2⟩ := x
    exact ⟨v, r, e, Rp.avoid k h1, RpL.avoid k h2⟩
end
theorem Rp.weak {X Y : Addr → Prop} {h : Heap} (k : ∀ a, Y a → X a) {d : D} {v : Value} (r : Rp X h v d) : Rp Y h v d := r.avoid fun a _ hn _ hy => hn (k a hy)
theorem RpL.weak {X Y : Addr → Prop} {h : Heap} (k : ∀ a, Y a → X a) {d : List D} {v : List Value} (r : RpL X h v d) : RpL Y h v d := r.avoid fun a _ hn _ hy => hn (k a hy)
/-- one more place to avoid, that holds no list -/
def Or1 (X : Addr → Prop) (a : Addr) : Addr → Prop := fun b => X b ∨ b = a
theorem not_list_none {h : Heap} {a : Addr} (e : h.get? a = none) (items : Array Value) : ¬ h.PlainList a items := by
  rintro ⟨n, ho⟩; rw [e] at ho; cases ho
theorem Rp.or1 {X : Addr → Prop} {h : Heap} {a : Addr} (k : ∀ items, ¬ h.PlainList a items) {d : D} {v : Value} (r : Rp X h v d) : Rp (Or1 X a) h v d := r.avoid fun b items hn hl hy => by
  rcases hy with hy | rfl
  · exact hn hy
  · exact k _ hl
theorem Rp.un1 {X : Addr → Prop} {h : Heap} {a : Addr} {d : D} {v : Value} (r : Rp (Or1 X a) h v d) : Rp X h v d := r.weak fun _ => .inl

/-- what a name of the block holds -/
def Look (env : Env) (h : Heap) (x : Str) (v : Value) : Prop :=
  (env.kindOf x = some .local ∧ ∃ m, h.Ns env.locals m ∧ m x = some v) ∨
  ((env.kindOf x = some .cell ∨ env.kindOf x = some .free) ∧ ∃ c, env.cells.lookup x = some c ∧ h.IsCell c (some v))
theorem Look.mono {env : Env} {h h' : Heap} (k : KK h h') {x : Str} {v : Value} (l : Look env h x v) : Look env h' x v := by
  rcases l with ⟨a, m, b, c⟩ | ⟨a, c, b, d⟩
  · exact .inl ⟨a, m, k.ns b, c⟩
  · exact .inr ⟨a, c, b, k.cell d⟩

/-- the law's call: its world and what stood before it -/
structure Cx where
  prog : Program
  w : World
  h₀ : Heap
  os₀ : OsState
  mg : Str → Option Value
  mb : Str → Option Value
  cc : Addr
  cP : Addr
  av : Addr → Prop

structure Cx.Ok (c : Cx) : Prop where
  g : c.h₀.Ns mainGlobals c.mg
  b : c.h₀.Ns builtinsNs c.mb
  nolimit : c.h₀.NoLimit
  tab : c.h₀.TableAt c.cc c.cP #[]
  nost : c.cP ≠ cStatics
  K : (hd.heap_39 c.w.params).In c.h₀
  bi : ∀ x : Str, x ≠ "__name__" → c.mb x = bootBuiltins x
  bm : ∃ bm ob, c.mg "__builtins__" = some (.ref bm) ∧ bm ≠ builtinsNs ∧ c.h₀.get? bm = some ob ∧ ob.cls = .type "module" ∧ ob.dict = some builtinsNs ∧ ob.data = .plain
  cc79 : c.cc = 79
  cP75 : c.cP = 75

/-- the block's own places -/
structure Own (c : Cx) (env : Env) (h : Heap) : Prop where
  ns : ∃ m, h.Ns env.locals m
  cells : ∀ y a, env.cells.lookup y = some a → ∃ v, h.IsCell a v
  old : c.h₀.get? env.locals = none
  oldC : ∀ y a, env.cells.lookup y = some a → c.h₀.get? a = none
  nav : ¬ c.av env.locals
  navC : ∀ y a, env.cells.lookup y = some a → ¬ c.av a
  apart : ∀ y y' a, env.cells.lookup y = some a → env.cells.lookup y' = some a → y = y'
theorem Own.kk {c : Cx} {env : Env} {h h' : Heap} (w : Own c env h) (k : KK h h') : Own c env h' :=
  ⟨let ⟨m, n⟩ := w.ns; ⟨m, k.ns n⟩, fun y a e => let ⟨v, x⟩ := w.cells y a e; ⟨v, k.cell x⟩, w.old, w.oldC, w.nav, w.navC, w.apart⟩

abbrev Rho := List (Str × D)
structure Has (c : Cx) (env : Env) (h : Heap) (ρ : Rho) : Prop where
  own : Own c env h
  get : ∀ x d, ρ.lookup x = some d → ∃ v, Look env h x v ∧ Rp c.av h v d
theorem Has.mono {c : Cx} {env : Env} {h h' : Heap} (k : KK h h') {ρ : Rho} (x : Has c env h ρ) : Has c env h' ρ := ⟨x.own.kk k, fun n d e =>
  let ⟨v, l, r⟩ := x.get n d e; ⟨v, l.mono k, r.mono k.kl⟩⟩

/-- what holds all through the call -/
structure G (c : Cx) (s : Shared) : Prop where
  old : OldK c.h₀ s.heap
  kk : KK c.h₀ s.heap
  os : s.os = c.os₀
  bare : AllBare s.gens
  tab : ∃ ps, s.heap.TableAt c.cc c.cP ps ∧ s.heap.IsCode c.cc c.cP ps
  av : ∀ a, c.av a → ∃ o, s.heap.get? a = some o

theorem oldK_same {h₀ h h' : Heap} (K : OldK h₀ h) {a : Addr} (ha : h₀.get? a = none) (hs : Heap.SameBut a h h') : OldK h₀ h' := by
  have ne : ∀ b o, h₀.get? b = some o → b ≠ a := fun b o e h => by subst h; rw [ha] at e; cases e
  refine ⟨fun b o e => ?_, fun b o e => let ⟨o', ho'⟩ := K.there b o e; ⟨o', (hs.2 b (ne b o e)).trans ho'⟩⟩
  rcases K.old b o e with x | ⟨t, hc, vs, more, hv, x⟩ | ⟨rfl, hc, ⟨o', es, n, ho', r⟩, z⟩
  · exact .inl ((hs.2 b (ne b o e)).trans x)
  · exact .inr (.inl ⟨t, hc, vs, more, hv, (hs.2 b (ne b o e)).trans x⟩)
  · exact .inr (.inr ⟨rfl, hc, ⟨o', es, n, (hs.2 _ (ne _ o e)).trans ho', r⟩, fun key => by rw [OldK.staticOf_congr (hs.2 _ (ne _ o e)) key]; exact z key⟩)

/-- the table's place is not used by what the call makes -/
theorem G.fresh {c : Cx} {s : Shared} (g : G c s) : c.h₀.get? s.heap.objs.size = none := by
  cases e : c.h₀.get? s.heap.objs.size with
  | none => rfl
  | some o => obtain ⟨o', ho'⟩ := g.old.there _ _ e; exact absurd (Heap.lt_size ho') (Nat.lt_irrefl _)

theorem G.navs {c : Cx} {s : Shared} (g : G c s) : ¬ c.av s.heap.objs.size := fun h => by
  obtain ⟨o, e⟩ := g.av _ h; exact absurd (Heap.lt_size e) (Nat.lt_irrefl _)
theorem G.keep {c : Cx} {s s' : Shared} (g : G c s) (k : ∀ b o, s.heap.get? b = some o → s'.heap.get? b = some o) (hg : s'.gens = s.gens) (ho : s'.os = s.os) : G c s' :=
  ⟨g.old.step_keeps k, g.kk.trans (KK.full k), ho.trans g.os, hg ▸ g.bare, let ⟨ps, t, i⟩ := g.tab; ⟨ps, t.keeps k, i.keeps k⟩, fun a h => let ⟨o, e⟩ := g.av a h; ⟨o, k _ _ e⟩⟩
theorem G.keepH {c : Cx} {s : Shared} {h' : Heap} {t : Nat} (g : G c s) (k : ∀ b o, s.heap.get? b = some o → h'.get? b = some o) : G c { s with heap := h', toks := t } := g.keep k rfl rfl
theorem G.tok {c : Cx} {s : Shared} {t : Nat} (g : G c s) : G c { s with toks := t } := g.keep (fun _ _ e => e) rfl rfl
theorem G.push {c : Cx} {s : Shared} {o : Obj} {t : Nat} (g : G c s) : G c { s with heap := s.heap.push o, toks := t } := g.keepH fun _ _ e => Heap.get?_push_of_some o e
theorem tab_ne {c : Cx} (O : c.Ok) {a : Addr} (ha : c.h₀.get? a = none) : c.cc ≠ a ∧ c.cP ≠ a := by
  obtain ⟨⟨o, vs, ho, _⟩, hP⟩ := O.tab
  exact ⟨(by rintro rfl; rw [ha] at ho; cases ho), (by rintro rfl; rw [ha] at hP; cases hP)⟩
theorem G.same {c : Cx} (O : c.Ok) {s : Shared} {h' : Heap} {t : Nat} {a : Addr} (g : G c s) (ha : c.h₀.get? a = none) (hs : Heap.SameBut a s.heap h') (hav : ¬ c.av a ∨ ∃ o, h'.get? a = some o) : G c { s with heap := h', toks := t } :=
  ⟨oldK_same g.old ha hs, fun b o n e => hs.extBut b o (by rintro rfl; rw [ha] at e; cases e) (g.kk b o n e), g.os, g.bare,
    let ⟨ps, t, i⟩ := g.tab; ⟨ps, t.sameBut hs (tab_ne O ha).1 (tab_ne O ha).2, i.sameBut hs (tab_ne O ha).1 (tab_ne O ha).2⟩,
    fun b hb => by
      by_cases q : b = a
      · subst q; exact hav.elim (fun n => absurd hb n) id
      · obtain ⟨o, e⟩ := g.av b hb; exact ⟨o, hs.extBut b o q e⟩⟩
theorem ext_keep {h h' : Heap} {a : Addr} (x : Heap.ExtBut a h h') (y : ∀ o, h.get? a = some o → h'.get? a = some o) : ∀ b o, h.get? b = some o → h'.get? b = some o := fun b o e => by
  by_cases q : b = a
  · subst q; exact y o e
  · exact x b o q e

theorem oldK_ext {h₀ h h' : Heap} (K : OldK h₀ h) {a : Addr} (ha : h₀.get? a = none) (hs : Heap.ExtBut a h h') : OldK h₀ h' := by
  have ne : ∀ b o, h₀.get? b = some o → b ≠ a := fun b o e h => by subst h; rw [ha] at e; cases e
  refine ⟨fun b o e => ?_, fun b o e => let ⟨o', ho'⟩ := K.there b o e; ⟨o', hs _ _ (ne b o e) ho'⟩⟩
  rcases K.old b o e with x | ⟨t, hc, vs, more, hv, x⟩ | ⟨rfl, hc, ⟨o', es, n, ho', r⟩, z⟩
  · exact .inl (hs _ _ (ne b o e) x)
  · exact .inr (.inl ⟨t, hc, vs, more, hv, hs _ _ (ne b o e) x⟩)
  · exact .inr (.inr ⟨rfl, hc, ⟨o', es, n, hs _ _ (ne _ o e) ho', r⟩, fun key => by rw [OldK.staticOf_congr ((hs _ _ (ne _ o e) ho').trans ho'.symm) key]; exact z key⟩)
theorem G.ext {c : Cx} (O : c.Ok) {s : Shared} {h' : Heap} {t : Nat} {a : Addr} (g : G c s) (ha : c.h₀.get? a = none) (hs : Heap.ExtBut a s.heap h') (hav : ¬ c.av a) : G c { s with heap := h', toks := t } :=
  ⟨oldK_ext g.old ha hs, fun b o n e => hs b o (by rintro rfl; rw [ha] at e; cases e) (g.kk b o n e), g.os, g.bare,
    let ⟨ps, t, i⟩ := g.tab; ⟨ps, t.extBut hs (tab_ne O ha).1 (tab_ne O ha).2, i.extBut hs (tab_ne O ha).1 (tab_ne O ha).2⟩,
    fun b hb => let ⟨o, e⟩ := g.av b hb; ⟨o, hs b o (by rintro rfl; exact hav hb) e⟩⟩

/-- an expression gives a datum -/
structure Ev (c : Cx) (A : Around) (env : Env) (ρ : Rho) (t : Sem Value) (d : D) : Prop where
  run : ∀ (s : Shared) (Q : Value → Shared → Prop) (E : Value → Shared → Prop), G c s → Has c env s.heap ρ → (∀ v s', G c s' → KK s.heap s'.heap → Rp c.av s'.heap v d → Q v s') → wpAny (model c.prog c.w) A t Q E s
/-- a test gives a truth -/
structure Tv (c : Cx) (A : Around) (env : Env) (ρ : Rho) (t : Sem Bool) (b : Bool) : Prop where
  run : ∀ (s : Shared) (Q : Bool → Shared → Prop) (E : Value → Shared → Prop), G c s → Has c env s.heap ρ → (∀ s', G c s' → KK s.heap s'.heap → Q b s') → wpAny (model c.prog c.w) A t Q E s
/-- a function of one, of two values on data -/
structure Op1 (c : Cx) (A : Around) (f : Value → Sem Value) (d₁ d : D) : Prop where
  run : ∀ (s : Shared) (v : Value) (Q : Value → Shared → Prop) (E : Value → Shared → Prop), G c s → Rp c.av s.heap v d₁ → (∀ v s', G c s' → KK s.heap s'.heap → Rp c.av s'.heap v d → Q v s') → wpAny (model c.prog c.w) A (f v) Q E s
structure Op2 (c : Cx) (A : Around) (f : Value → Value → Sem Value) (d₁ d₂ d : D) : Prop where
  run : ∀ (s : Shared) (v₁ v₂ : Value) (Q : Value → Shared → Prop) (E : Value → Shared → Prop), G c s → Rp c.av s.heap v₁ d₁ → Rp c.av s.heap v₂ d₂ → (∀ v s', G c s' → KK s.heap s'.heap → Rp c.av s'.heap v d → Q v s') → wpAny (model c.prog c.w) A (f v₁ v₂) Q E s
/-- a call on data -/
structure Fn (c : Cx) (A : Around) (f : Value) (ds : List D) (d : D) : Prop where
  run : ∀ (s : Shared) (vs : List Value) (Q : Value → Shared → Prop) (E : Value → Shared → Prop), G c s → RpL c.av s.heap vs ds → (∀ v s', G c s' → KK s.heap s'.heap → Rp c.av s'.heap v d → Q v s') → wpAny (model c.prog c.w) A (call f vs []) Q E s

section
variable {c : Cx} {A : Around} {env : Env} {ρ : Rho}

theorem Ev.cast {t : Sem Value} {d d' : D} (h : Ev c A env ρ t d) (e : d = d') : Ev c A env ρ t d' := e ▸ h
theorem Tv.cast {t : Sem Bool} {d d' : Bool} (h : Tv c A env ρ t d) (e : d = d') : Tv c A env ρ t d' := e ▸ h

theorem ev_Name {x : Str} {pos : Pos} {d : D} (hk : env.scope.kind = .function) (hx : ρ.lookup x = some d) (hd : (x == ("__debug__" : Str)) = false) (hn : (x == ("__classdict__" : Str)) = false) : Ev c A env ρ (eval (.Name x pos) env) d := by
  refine ⟨fun s Q E g hs hQ => ?_⟩
  obtain ⟨v, l, r⟩ := hs.get x d hx
  have h := hQ v s g (KK.refl _) r
  refine wpAny_Name ?_ hd
  rcases l with ⟨hl, m, hm, hv⟩ | ⟨hl | hl, c', hc, hv⟩
  · exact wpAny_loadName_local hk hl hm hv h
  · exact wpAny_loadName_cell hk hl hc hv h
  · exact wpAny_loadName_free hk hl hc hv h hn

theorem ev_BinOp {l r : Expr} {op : Operator} {pos : Pos} {d₁ d₂ d : D} (h₁ : Ev c A env ρ (eval l env) d₁) (h₂ : Ev c A env ρ (eval r env) d₂) (h : Op2 c A (binaryOp op) d₁ d₂ d) : Ev c A env ρ (eval (.BinOp l op r pos) env) d := by
  refine ⟨fun s Q E g hs hQ => ?_⟩
  refine wpAny_BinOp (h₁.run s _ _ g hs fun a s₁ g₁ k₁ r₁ => h₂.run s₁ _ _ g₁ (hs.mono k₁) fun b s₂ g₂ k₂ r₂ => ?_)
  exact h.run s₂ _ _ _ _ g₂ (r₁.mono k₂.kl) r₂ fun v s₃ g₃ k₃ r₃ => hQ v s₃ g₃ ((k₁.trans k₂).trans k₃) r₃
theorem ev_UnaryOp {x : Expr} {op : UnaryOp} {pos : Pos} {d₁ d : D} (h₁ : Ev c A env ρ (eval x env) d₁) (h : Op1 c A (unaryOp op) d₁ d) : Ev c A env ρ (eval (.UnaryOp op x pos) env) d := by
  refine ⟨fun s Q E g hs hQ => ?_⟩
  refine wpAny_UnaryOp (h₁.run s _ _ g hs fun a s₁ g₁ k₁ r₁ => h.run s₁ _ _ _ g₁ r₁ fun v s₃ g₃ k₃ r₃ => hQ v s₃ g₃ (k₁.trans k₃) r₃)
theorem ev_IfExp {t b o : Expr} {pos : Pos} {tv : Bool} {d₁ d₂ : D} (ht : Tv c A env ρ (isTrue t env (eval t env)) tv) (h₁ : tv = true → Ev c A env ρ (eval b env) d₁) (h₂ : tv = false → Ev c A env ρ (eval o env) d₂) :
    Ev c A env ρ (eval (.IfExp t b o pos) env) (if tv then d₁ else d₂) := by
  refine ⟨fun s Q E g hs hQ => ?_⟩
  refine wpAny_IfExp (ht.run s _ _ g hs fun s₁ g₁ k₁ => ?_)
  cases tv with
  | true => exact (h₁ rfl).run s₁ _ _ g₁ (hs.mono k₁) fun v s₂ g₂ k₂ r₂ => hQ v s₂ g₂ (k₁.trans k₂) r₂
  | false => exact (h₂ rfl).run s₁ _ _ g₁ (hs.mono k₁) fun v s₂ g₂ k₂ r₂ => hQ v s₂ g₂ (k₁.trans k₂) r₂

theorem ev_int {i : Int} {k : Nat} {pos : Pos} : Ev c A env ρ (eval (.Constant (.int i) k pos) env) (.int i) := by
  refine ⟨fun s Q E g hs hQ => ?_⟩
  refine wpAny_Constant_int ?_
  exact hQ _ _ g.tok (KK.refl _) (by simp only [Rp]; exact ⟨_, rfl⟩)
theorem ev_str {x : Str} {k : Nat} {pos : Pos} : Ev c A env ρ (eval (.Constant (.str x) k pos) env) (.str x) := by
  refine ⟨fun s Q E g hs hQ => ?_⟩
  refine wpAny_Constant_str ?_
  exact hQ _ _ g.tok (KK.refl _) (by simp only [Rp]; exact ⟨_, rfl⟩)
theorem ev_bool {b : Bool} {k : Nat} {pos : Pos} : Ev c A env ρ (eval (.Constant (.bool b) k pos) env) (.bool b) := by
  refine ⟨fun s Q E g hs hQ => ?_⟩
  exact wpAny_Constant_bool (hQ _ _ g (KK.refl _) (by simp only [Rp]))
end
end Mine
end
/-! MRules -/
section
open PySem PySem.W PyProof.Rows
namespace Mine

theorem rp_int {X : Addr → Prop} {h : Heap} {v : Value} {i : Int} : Rp X h v (.int i) ↔ ∃ t, v = .int i t := by simp only [Rp]
theorem rp_flt {X : Addr → Prop} {h : Heap} {v : Value} {i : UInt64} : Rp X h v (.flt i) ↔ ∃ t, v = .float i t := by simp only [Rp]
theorem rp_str {X : Addr → Prop} {h : Heap} {v : Value} {i : Str} : Rp X h v (.str i) ↔ ∃ t, v = .str i t := by simp only [Rp]
theorem rp_bool {X : Addr → Prop} {h : Heap} {v : Value} {i : Bool} : Rp X h v (.bool i) ↔ v = .bool i := by simp only [Rp]
theorem rp_none {X : Addr → Prop} {h : Heap} {v : Value} : Rp X h v .none ↔ v = .none := by simp only [Rp]
theorem rp_list {X : Addr → Prop} {h : Heap} {v : Value} {xs : List D} : Rp X h v (.list xs) ↔ ∃ a items, v = .ref a ∧ ¬ X a ∧ h.PlainList a items ∧ RpL X h items.toList xs := by simp only [Rp]

section
variable {c : Cx} {A : Around} {env : Env} {ρ : Rho}

/-- several expressions, one behind the other -/
structure EvL (c : Cx) (A : Around) (env : Env) (ρ : Rho) (pos : Pos) (es : List Expr) (ds : List D) : Prop where
  run : ∀ (s : Shared) (Q : List Value → Shared → Prop) (E : Value → Shared → Prop), G c s → Has c env s.heap ρ → (∀ vs s', G c s' → KK s.heap s'.heap → RpL c.av s'.heap vs ds → Q vs s') → wpAny (model c.prog c.w) A (spliced (backTo pos (starEach es env))) Q E s
def notStar : Expr → Bool
  | .Starred .. => false
  | _ => true
theorem star_cons {e : Expr} {es : List Expr} {env : Env} (h : notStar e = true) : starEach (e :: es) env = (false, eval e env) :: starEach es env := by
  cases e <;> first | rfl | cases h
theorem star_plain {pos : Pos} {env : Env} : ∀ {es : List Expr}, es.all notStar = true → (backTo pos (starEach es env)).any (·.1) = false
  | [], _ => rfl
  | e :: es, h => by
    simp only [List.all_cons, Bool.and_eq_true] at h
    rw [star_cons h.1]
    show (false || (backTo pos (starEach es env)).any (·.1)) = false
    rw [star_plain h.2]; rfl
theorem evl_nil {pos : Pos} : EvL c A env ρ pos [] [] := ⟨fun s Q E g _ hQ => Calls.spliced_nil (hQ [] s g (KK.refl _) RpL.nil)⟩
theorem evl_cons {pos : Pos} {e : Expr} {es : List Expr} {d : D} {ds : List D} (h : Ev c A env ρ (eval e env) d) (h' : EvL c A env ρ pos es ds)
    (he : notStar e = true := by rfl) : EvL c A env ρ pos (e :: es) (d :: ds) := by
  refine ⟨fun s Q E g hs hQ => ?_⟩
  rw [star_cons he]
  refine Calls.spliced_cons (x := eval e env) (h.run s _ _ g hs fun v s₁ g₁ k₁ r₁ => h'.run s₁ _ _ g₁ (hs.mono k₁) fun vs s₂ g₂ k₂ r₂ => ?_)
  exact hQ _ _ g₂ (k₁.trans k₂) (RpL.cons (r₁.mono k₂.kl) r₂)

theorem new_list {s : Shared} {vs : List Value} {ds : List D} (g : G c s) (r : RpL c.av s.heap vs ds) : Rp c.av (s.heap.push { cls := .type "list", data := .seq vs.toArray }) (.ref s.heap.objs.size) (.list ds) := by
  rw [rp_list]
  exact ⟨_, vs.toArray, rfl, g.navs, ⟨_, Heap.get?_push_size _ rfl⟩, by simpa using r.mono (KK.push _ _).kl⟩
theorem ev_List {pos : Pos} {es : List Expr} {ds : List D} (h : EvL c A env ρ pos es ds) (hz : ds.length ≤ sizeLine := by simp [sizeLine]) : Ev c A env ρ (eval (.List es pos) env) (.list ds) := by
  refine ⟨fun s Q E g hs hQ => ?_⟩
  refine wpAny_List (h.run s _ _ g hs fun vs s₁ g₁ k₁ r₁ => ⟨by rw [r₁.length]; exact hz, ?_⟩)
  exact hQ _ _ (g₁.push (t := s₁.toks)) (k₁.trans (KK.push _ _)) (new_list g₁ r₁)

/-- names of the top and of the language -/
structure EnvOk (env : Env) : Prop where
  kind : env.scope.kind = .function
  glob : env.globals = mainGlobals
  bi : env.builtins = builtinsNs
theorem load_global {E : Value → Shared → Prop} {s : Shared} {Q : Value → Shared → Prop} (O : c.Ok) (e : EnvOk env) (g : G c s) {x : Str} {pos : Pos} {v : Value} (hx : env.kindOf x = some .globalImplicit) (hd : (x == ("__debug__" : Str)) = false)
    (hv : c.mg x = some v ∨ (c.mg x = none ∧ c.mb x = some v)) (h : Q v s) : wpAny (model c.prog c.w) A (eval (.Name x pos) env) Q E s := by
  refine Calls.Name_function_global e.kind hx ?_ hd
  unfold loadGlobal
  rw [e.glob, e.bi]
  refine wpAny_bind (wpAny_nsGet (g.kk.ns O.g) ?_)
  rcases hv with hv | ⟨h1, hv⟩
  · rw [hv]; exact wpAny_pure h
  · rw [h1]
    refine wpAny_bind (wpAny_nsGet (g.kk.ns O.b) ?_)
    rw [hv]; exact wpAny_pure h

/-- a call of a def of the top -/
theorem ev_call {x : Str} {p pos : Pos} {e : Expr} {es : List Expr} {ds : List D} {d : D} {f : Addr} {o : Obj} {fd : FuncData} (O : c.Ok) (ok : EnvOk env) (hx : env.kindOf x = some .globalImplicit) (hd : (x == ("__debug__" : Str)) = false)
    (hf : c.mg x = some (.ref f)) (ho : c.h₀.get? f = some o) (hdat : o.data = .func fd) (ha : EvL c A env ρ pos (e :: es) ds) (h : Fn c A (.ref f) ds d)
    (he : notStar e = true := by rfl) : Ev c A env ρ (eval (.Call (.Name x p) (e :: es) [] pos) env) d := by
  refine ⟨fun s Q E g hs hQ => ?_⟩
  refine wpAny_Call_NameR (load_global O ok g hx hd (.inl hf) ?_)
  refine callWith_def hdat (ha.run s _ _ g hs fun vs s₁ g₁ k₁ r₁ => ⟨g₁.kk _ _ (NT.data (by rw [hdat]; nofun)) ho, ?_⟩) (star_cons he)
  exact h.run s₁ vs _ _ g₁ r₁ fun v s₂ g₂ k₂ r₂ => hQ v s₂ g₂ (k₁.trans k₂) r₂
/-- a call of a built-in function -/
theorem ev_callB {x : Str} {p pos : Pos} {e : Expr} {es : List Expr} {ds : List D} {d : D} {id : String} (O : c.Ok) (ok : EnvOk env) (hx : env.kindOf x = some .globalImplicit) (hd : (x == ("__debug__" : Str)) = false)
    (hf : c.mg x = some (.builtin id) ∨ (c.mg x = none ∧ c.mb x = some (.builtin id))) (ha : EvL c A env ρ pos (e :: es) ds) (h : Fn c A (.builtin id) ds d)
    (he : notStar e = true := by rfl) (hp : es.all notStar = true := by rfl) : Ev c A env ρ (eval (.Call (.Name x p) (e :: es) [] pos) env) d := by
  refine ⟨fun s Q E g hs hQ => ?_⟩
  refine wpAny_Call_NameR (load_global O ok g hx hd hf ?_)
  refine callWith_builtin1 (ha.run s _ _ g hs fun vs s₁ g₁ k₁ r₁ => ?_) (star_cons he) (star_plain hp)
  exact h.run s₁ vs _ _ g₁ r₁ fun v s₂ g₂ k₂ r₂ => hQ v s₂ g₂ (k₁.trans k₂) r₂

-- operations
theorem op_add_int {a b : Int} : Op2 c A (binaryOp .Add) (.int a) (.int b) (.int (a + b)) := by
  refine ⟨fun s v₁ v₂ Q E g r₁ r₂ hQ => ?_⟩
  obtain ⟨t, rfl⟩ := rp_int.mp r₁; obtain ⟨u, rfl⟩ := rp_int.mp r₂
  exact add_int (hQ _ _ g.tok (KK.refl _) (rp_int.mpr ⟨_, rfl⟩))
theorem op_sub_int {a b : Int} : Op2 c A (binaryOp .Sub) (.int a) (.int b) (.int (a - b)) := by
  refine ⟨fun s v₁ v₂ Q E g r₁ r₂ hQ => ?_⟩
  obtain ⟨t, rfl⟩ := rp_int.mp r₁; obtain ⟨u, rfl⟩ := rp_int.mp r₂
  exact sub_int (hQ _ _ g.tok (KK.refl _) (rp_int.mpr ⟨_, rfl⟩))
theorem op_mul_int {a b : Int} (hz : IntMulOk a b) : Op2 c A (binaryOp .Mult) (.int a) (.int b) (.int (a * b)) := by
  refine ⟨fun s v₁ v₂ Q E g r₁ r₂ hQ => ?_⟩
  obtain ⟨t, rfl⟩ := rp_int.mp r₁; obtain ⟨u, rfl⟩ := rp_int.mp r₂
  exact mul_int (hQ _ _ g.tok (KK.refl _) (rp_int.mpr ⟨_, rfl⟩)) hz
theorem op_mod_int {a b : Int} (hb : b ≠ 0) : Op2 c A (binaryOp .Mod) (.int a) (.int b) (.int (a.fmod b)) := by
  refine ⟨fun s v₁ v₂ Q E g r₁ r₂ hQ => ?_⟩
  obtain ⟨t, rfl⟩ := rp_int.mp r₁; obtain ⟨u, rfl⟩ := rp_int.mp r₂
  exact mod_int' hb (hQ _ _ g.tok (KK.refl _) (rp_int.mpr ⟨_, rfl⟩))
theorem op_fdiv_int {a b : Int} (hb : b ≠ 0) (hp : Builtin.divisionGoesByPylong a b = false) : Op2 c A (binaryOp .FloorDiv) (.int a) (.int b) (.int (a.fdiv b)) := by
  refine ⟨fun s v₁ v₂ Q E g r₁ r₂ hQ => ?_⟩
  obtain ⟨t, rfl⟩ := rp_int.mp r₁; obtain ⟨u, rfl⟩ := rp_int.mp r₂
  exact floordiv_int hb (hQ _ _ g.tok (KK.refl _) (rp_int.mpr ⟨_, rfl⟩)) (.inl hp)
theorem op_neg_int {a : Int} : Op1 c A (unaryOp .USub) (.int a) (.int (-a)) := by
  refine ⟨fun s v₁ Q E g r₁ hQ => ?_⟩
  obtain ⟨t, rfl⟩ := rp_int.mp r₁
  exact neg_int (hQ _ _ g.tok (KK.refl _) (rp_int.mpr ⟨_, rfl⟩))
theorem op_add_str {a b : Str} (hz : a.length + b.length ≤ sizeLine) : Op2 c A (binaryOp .Add) (.str a) (.str b) (.str (a ++ b)) := by
  refine ⟨fun s v₁ v₂ Q E g r₁ r₂ hQ => ?_⟩
  obtain ⟨t, rfl⟩ := rp_str.mp r₁; obtain ⟨u, rfl⟩ := rp_str.mp r₂
  exact add_str (fun _ _ => hQ _ _ g.tok (KK.refl _) (rp_str.mpr ⟨_, rfl⟩)) hz
theorem op_add_list {xs ys : List D} (hz : xs.length + ys.length ≤ sizeLine) : Op2 c A (binaryOp .Add) (.list xs) (.list ys) (.list (xs ++ ys)) := by
  refine ⟨fun s v₁ v₂ Q E g r₁ r₂ hQ => ?_⟩
  obtain ⟨l, its, rfl, _, hl, ra⟩ := rp_list.mp r₁; obtain ⟨b, its2, rfl, _, hb, rb⟩ := rp_list.mp r₂
  obtain ⟨⟨cls, dd, data, sl⟩, ho, hc, n, hd⟩ := id hl.isList
  obtain ⟨⟨cls2, dd2, data2, sl2⟩, ho2, hc2, n2, hd2⟩ := id hb.isList
  simp only at hc hd hc2 hd2
  subst hc hd hc2 hd2
  have e1 := ra.length; have e2 := rb.length
  simp only [Array.length_toList] at e1 e2
  refine concat_meets ⟨_, ho, rfl⟩ ⟨_, ho2, rfl⟩ noFill_list_add seq_list_add PySem.F.slot_list_add PySem.F.entry_list_add (PySem.F.args_list_add_2 _ _) (list_addW l b its its2 n n2 dd dd2 sl sl2 (by omega)) ⟨ho, ho2, ?_⟩
  have e : its ++ its2 = (its.toList ++ its2.toList).toArray := by simp
  rw [e]
  exact hQ _ _ (g.push (t := s.toks)) (KK.push _ _) (new_list g (ra.append rb))

-- floats
theorem op_div_ii {a b : Int} (hb : b ≠ 0) (hi : Float64.isInf (Float64.ofFrac (decide (a < 0) != decide (b < 0)) a.natAbs b.natAbs) = false) :
    Op2 c A (binaryOp .Div) (.int a) (.int b) (.flt (Float64.ofFrac (decide (a < 0) != decide (b < 0)) a.natAbs b.natAbs)) := by
  refine ⟨fun s v₁ v₂ Q E g r₁ r₂ hQ => ?_⟩
  obtain ⟨t, rfl⟩ := rp_int.mp r₁; obtain ⟨u, rfl⟩ := rp_int.mp r₂
  exact AutoIntOps.truediv_2 (by simpa using hb) (by simp [hi]) (hQ _ _ g.tok (KK.refl _) (rp_flt.mpr ⟨_, rfl⟩))
theorem op_div_fi {a : UInt64} {b : Int} (hb : Float64.isInf (Float64.ofInt b) = false) (hz : Float64.isZero (Float64.ofInt b) = false) :
    Op2 c A (binaryOp .Div) (.flt a) (.int b) (.flt (Float64.div a (Float64.ofInt b))) := by
  refine ⟨fun s v₁ v₂ Q E g r₁ r₂ hQ => ?_⟩
  obtain ⟨t, rfl⟩ := rp_flt.mp r₁; obtain ⟨u, rfl⟩ := rp_int.mp r₂
  exact AutoFloatOps.truediv_fi_2 (by simp [hb]) (by simp [hz]) (hQ _ _ g.tok (KK.refl _) (rp_flt.mpr ⟨_, rfl⟩))
theorem op_add_ff {a b : UInt64} : Op2 c A (binaryOp .Add) (.flt a) (.flt b) (.flt (Float64.add a b)) := by
  refine ⟨fun s v₁ v₂ Q E g r₁ r₂ hQ => ?_⟩
  obtain ⟨t, rfl⟩ := rp_flt.mp r₁; obtain ⟨u, rfl⟩ := rp_flt.mp r₂
  exact add_float (hQ _ _ g.tok (KK.refl _) (rp_flt.mpr ⟨_, rfl⟩))
theorem op_add_if {a : Int} {b : UInt64} (hz : a.natAbs < 2 ^ 1023) : Op2 c A (binaryOp .Add) (.int a) (.flt b) (.flt (Float64.add (Float64.ofInt a) b)) := by
  refine ⟨fun s v₁ v₂ Q E g r₁ r₂ hQ => ?_⟩
  obtain ⟨t, rfl⟩ := rp_int.mp r₁; obtain ⟨u, rfl⟩ := rp_flt.mp r₂
  exact add_if_fits hz (hQ _ _ g.tok (KK.refl _) (rp_flt.mpr ⟨_, rfl⟩))
theorem op_add_fi {a : UInt64} {b : Int} (hz : b.natAbs < 2 ^ 1023) : Op2 c A (binaryOp .Add) (.flt a) (.int b) (.flt (Float64.add a (Float64.ofInt b))) := by
  refine ⟨fun s v₁ v₂ Q E g r₁ r₂ hQ => ?_⟩
  obtain ⟨t, rfl⟩ := rp_flt.mp r₁; obtain ⟨u, rfl⟩ := rp_int.mp r₂
  exact add_fi_fits hz (hQ _ _ g.tok (KK.refl _) (rp_flt.mpr ⟨_, rfl⟩))
theorem op_sub_ff {a b : UInt64} : Op2 c A (binaryOp .Sub) (.flt a) (.flt b) (.flt (Float64.sub a b)) := by
  refine ⟨fun s v₁ v₂ Q E g r₁ r₂ hQ => ?_⟩
  obtain ⟨t, rfl⟩ := rp_flt.mp r₁; obtain ⟨u, rfl⟩ := rp_flt.mp r₂
  exact sub_float (hQ _ _ g.tok (KK.refl _) (rp_flt.mpr ⟨_, rfl⟩))
theorem op_sub_if {a : Int} {b : UInt64} (hz : a.natAbs < 2 ^ 1023) : Op2 c A (binaryOp .Sub) (.int a) (.flt b) (.flt (Float64.sub (Float64.ofInt a) b)) := by
  refine ⟨fun s v₁ v₂ Q E g r₁ r₂ hQ => ?_⟩
  obtain ⟨t, rfl⟩ := rp_int.mp r₁; obtain ⟨u, rfl⟩ := rp_flt.mp r₂
  exact sub_if_fits hz (hQ _ _ g.tok (KK.refl _) (rp_flt.mpr ⟨_, rfl⟩))
theorem op_mul_if {a : Int} {b : UInt64} (hz : a.natAbs < 2 ^ 1023) : Op2 c A (binaryOp .Mult) (.int a) (.flt b) (.flt (Float64.mul (Float64.ofInt a) b)) := by
  refine ⟨fun s v₁ v₂ Q E g r₁ r₂ hQ => ?_⟩
  obtain ⟨t, rfl⟩ := rp_int.mp r₁; obtain ⟨u, rfl⟩ := rp_flt.mp r₂
  exact mul_if_fits hz (hQ _ _ g.tok (KK.refl _) (rp_flt.mpr ⟨_, rfl⟩))

-- comparisons
theorem cmp_eq_int {a b : Int} : Op2 c A (compareOp .Eq) (.int a) (.int b) (.bool (a == b)) := by
  refine ⟨fun s v₁ v₂ Q E g r₁ r₂ hQ => ?_⟩
  obtain ⟨t, rfl⟩ := rp_int.mp r₁; obtain ⟨u, rfl⟩ := rp_int.mp r₂
  exact eq_int (hQ _ _ g (KK.refl _) (rp_bool.mpr rfl))
theorem cmp_ne_int {a b : Int} : Op2 c A (compareOp .NotEq) (.int a) (.int b) (.bool (a != b)) := by
  refine ⟨fun s v₁ v₂ Q E g r₁ r₂ hQ => ?_⟩
  obtain ⟨t, rfl⟩ := rp_int.mp r₁; obtain ⟨u, rfl⟩ := rp_int.mp r₂
  exact ne_int (hQ _ _ g (KK.refl _) (rp_bool.mpr rfl))
theorem cmp_lt_int {a b : Int} : Op2 c A (compareOp .Lt) (.int a) (.int b) (.bool (decide (a < b))) := by
  refine ⟨fun s v₁ v₂ Q E g r₁ r₂ hQ => ?_⟩
  obtain ⟨t, rfl⟩ := rp_int.mp r₁; obtain ⟨u, rfl⟩ := rp_int.mp r₂
  exact lt_int (hQ _ _ g (KK.refl _) (rp_bool.mpr rfl))
theorem cmp_eq_str {a b : Str} : Op2 c A (compareOp .Eq) (.str a) (.str b) (.bool (a == b)) := by
  refine ⟨fun s v₁ v₂ Q E g r₁ r₂ hQ => ?_⟩
  obtain ⟨t, rfl⟩ := rp_str.mp r₁; obtain ⟨u, rfl⟩ := rp_str.mp r₂
  exact eq_str (hQ _ _ g (KK.refl _) (rp_bool.mpr rfl))
theorem cmp_ne_str {a b : Str} : Op2 c A (compareOp .NotEq) (.str a) (.str b) (.bool (a != b)) := by
  refine ⟨fun s v₁ v₂ Q E g r₁ r₂ hQ => ?_⟩
  obtain ⟨t, rfl⟩ := rp_str.mp r₁; obtain ⟨u, rfl⟩ := rp_str.mp r₂
  exact ne_str (hQ _ _ g (KK.refl _) (rp_bool.mpr rfl))
theorem cmp_ne_fi {a : UInt64} {b : Int} : Op2 c A (compareOp .NotEq) (.flt a) (.int b) (.bool (Float64.cmpInt a b != some Ordering.eq)) := by
  refine ⟨fun s v₁ v₂ Q E g r₁ r₂ hQ => ?_⟩
  obtain ⟨t, rfl⟩ := rp_flt.mp r₁; obtain ⟨u, rfl⟩ := rp_int.mp r₂
  exact ne_fi (hQ _ _ g (KK.refl _) (rp_bool.mpr rfl))

theorem ev_Compare {l r : Expr} {op : CmpOp} {pos : Pos} {d₁ d₂ d : D} (h₁ : Ev c A env ρ (eval l env) d₁) (h₂ : Ev c A env ρ (eval r env) d₂) (h : Op2 c A (compareOp op) d₁ d₂ d) (hb : behindInMarks op r = false) : Ev c A env ρ (eval (.Compare l [op] [r] pos) env) d := by
  refine ⟨fun s Q E g hs hQ => ?_⟩
  refine wpAny_Compare1 (h₁.run s _ _ g hs fun a s₁ g₁ k₁ r₁ => h₂.run s₁ _ _ g₁ (hs.mono k₁) fun b s₂ g₂ k₂ r₂ => ?_) hb
  exact h.run s₂ _ _ _ _ g₂ (r₁.mono k₂.kl) r₂ fun v s₃ g₃ k₃ r₃ => hQ v s₃ g₃ ((k₁.trans k₂).trans k₃) r₃
theorem tv_Compare {l r : Expr} {op : CmpOp} {pos : Pos} {d₁ d₂ : D} {b : Bool} {whole : Sem Value} (h₁ : Ev c A env ρ (eval l env) d₁) (h₂ : Ev c A env ρ (eval r env) d₂) (h : Op2 c A (compareOp op) d₁ d₂ (.bool b)) (hb : behindInMarks op r = false) :
    Tv c A env ρ (isTrue (.Compare l [op] [r] pos) env whole) b := by
  refine ⟨fun s Q E g hs hQ => ?_⟩
  refine wpAny_isTrue_Compare1 (h₁.run s _ _ g hs fun a s₁ g₁ k₁ r₁ => h₂.run s₁ _ _ g₁ (hs.mono k₁) fun b s₂ g₂ k₂ r₂ => ?_) hb
  refine h.run s₂ _ _ _ _ g₂ (r₁.mono k₂.kl) r₂ fun v s₃ g₃ k₃ r₃ => ?_
  rw [rp_bool] at r₃
  subst r₃
  exact wpAny_truthy_bool (hQ s₃ g₃ ((k₁.trans k₂).trans k₃))
theorem tv_Not {x : Expr} {pos : Pos} {whole : Sem Value} {b : Bool} (h : Tv c A env ρ (isTrue x env (eval x env)) b) : Tv c A env ρ (isTrue (.UnaryOp .Not x pos) env whole) (!b) := by
  refine ⟨fun s Q E g hs hQ => ?_⟩
  exact wpAny_isTrue_Not (h.run s _ _ g hs fun s₁ g₁ k₁ => hQ s₁ g₁ k₁)
/-- the test is an expression that gives a bool -/
theorem tv_val {e : Expr} {b : Bool} {whole : Sem Value} (h : Ev c A env ρ whole (.bool b)) (he : isTrue e env whole = (do let v ← whole; standAt e.pos; holding [v] (truthy v))) : Tv c A env ρ (isTrue e env whole) b := by
  refine ⟨fun s Q E g hs hQ => ?_⟩
  refine wpAny_isTrue_value (h.run s _ _ g hs fun v s₁ g₁ k₁ r₁ => ?_) he
  rw [rp_bool] at r₁
  subst r₁
  exact wpAny_truthy_bool (hQ s₁ g₁ k₁)
theorem tv_and {x y : Expr} {pos : Pos} {whole : Sem Value} {a b : Bool} (h₁ : Tv c A env ρ (isTrue x env (eval x env)) a) (h₂ : a = true → Tv c A env ρ (isTrue y env (eval y env)) b) : Tv c A env ρ (isTrue (.BoolOp .And [x, y] pos) env whole) (a && b) := by
  refine ⟨fun s Q E g hs hQ => ?_⟩
  refine wpAny_isTrue_BoolOp (wpAny_allTrue_And_cons (h₁.run s _ _ g hs fun s₁ g₁ k₁ => ?_))
  cases a with
  | false => exact hQ s₁ g₁ k₁
  | true =>
    refine wpAny_allTrue_And_cons ((h₂ rfl).run s₁ _ _ g₁ (hs.mono k₁) fun s₂ g₂ k₂ => ?_)
    cases b with
    | false => exact hQ s₂ g₂ (k₁.trans k₂)
    | true => exact wpAny_allTrue_And_nil (hQ s₂ g₂ (k₁.trans k₂))
theorem tv_or {x y : Expr} {pos : Pos} {whole : Sem Value} {a b : Bool} (h₁ : Tv c A env ρ (isTrue x env (eval x env)) a) (h₂ : a = false → Tv c A env ρ (isTrue y env (eval y env)) b) : Tv c A env ρ (isTrue (.BoolOp .Or [x, y] pos) env whole) (a || b) := by
  refine ⟨fun s Q E g hs hQ => ?_⟩
  refine wpAny_isTrue_BoolOp (wpAny_allTrue_Or_cons (h₁.run s _ _ g hs fun s₁ g₁ k₁ => ?_))
  cases a with
  | true => exact hQ s₁ g₁ k₁
  | false =>
    refine wpAny_allTrue_Or_cons ((h₂ rfl).run s₁ _ _ g₁ (hs.mono k₁) fun s₂ g₂ k₂ => ?_)
    cases b with
    | true => exact hQ s₂ g₂ (k₁.trans k₂)
    | false => exact wpAny_allTrue_Or_nil (hQ s₂ g₂ (k₁.trans k₂))
end
end Mine
end
/-! MSub -/
section
open PySem PySem.W PyProof.Rows
namespace Mine
section
variable {c : Cx} {A : Around} {env : Env} {ρ : Rho}

theorem sub_any (slice : Expr) (o i : Value) : ∃ ops, subscripted slice false o i = operate ops (getItem o i) := by
  unfold subscripted
  split <;> first | exact ⟨_, rfl⟩ | contradiction
theorem tail_go {E : Value → Shared → Prop} {s : Shared} {value slice : Expr} {o i : Value} {T id : String} {Q : Value → Shared → Prop} (hT : s.TypeIs o T)
    (hl : typeLookup (.type T) "__getitem__" = pure (some (.builtin id))) (h : wpAny (model c.prog c.w) A (getItem o i) Q E s) : wpAny (model c.prog c.w) A (subscriptTail value slice o i) Q E s := by
  unfold subscriptTail
  refine wpAny_bind ?_
  rw [getitemInPython_of_ne hT.not_modules]
  refine wpAny_bind (wpAny_specialOf hT hl ?_)
  obtain ⟨ops, hs⟩ := sub_any slice o i
  have fin : wpAny (model c.prog c.w) A (subscripted slice false o i) (fun r s₃ => wpAny (model c.prog c.w) A (letTemporaryGo value o r >>= fun _ => pure r) Q E s₃) E s := by
    rw [hs]
    exact wpAny_operating (wpAny_mono h (fun r s₃ h₃ => wpAny_bind (wpAny_letTemporaryGo (wpAny_pure h₃))) fun _ _ x => x)
  first
    | exact wpAny_pure (wpAny_bind fin)
    | exact wpAny_bind (wpAny_pure (wpAny_bind fin))
    | exact wpAny_bind fin

theorem rp_typeL {s : Shared} {v : Value} {xs : List D} (r : Rp c.av s.heap v (.list xs)) : s.TypeIs v "list" := by
  obtain ⟨a, items, rfl, _, hl, _⟩ := rp_list.mp r; exact hl.isList.typeIs
theorem rp_typeS {s : Shared} {v : Value} {x : Str} (r : Rp c.av s.heap v (.str x)) : s.TypeIs v "str" := by
  obtain ⟨t, rfl⟩ := rp_str.mp r; exact typeIs_str _ _ _

/-- an item of a list -/
theorem ev_item {value slice : Expr} {pos : Pos} {xs : List D} {k : Int} {d : D} (h₁ : Ev c A env ρ (eval value env) (.list xs)) (h₂ : Ev c A env ρ (eval slice env) (.int k)) (h0 : 0 ≤ k) (hk : k < 2 ^ 63) (hx : xs[k.toNat]? = some d) : Ev c A env ρ (eval (.Subscript value slice pos) env) d := by
  refine ⟨fun s Q E g hs' hQ => ?_⟩
  refine Subscript_ (h₁.run s _ _ g hs' fun a s₁ g₁ k₁ r₁ => h₂.run s₁ _ _ g₁ (hs'.mono k₁) fun b s₂ g₂ k₂ r₂ => ?_)
  have r₁' := r₁.mono k₂.kl
  obtain ⟨t, rfl⟩ := rp_int.mp r₂
  obtain ⟨l, items, rfl, _, hl, rl⟩ := rp_list.mp r₁'
  obtain ⟨v, hv, rv⟩ := rl.get hx
  exact tail_go hl.isList.typeIs slot_list_getitem.lookup (wpAny_getItem_list hl.isList h0 hk (by simpa using hv) (hQ v s₂ g₂ (k₁.trans k₂) rv))
/-- a sign of a text -/
theorem ev_sign {value slice : Expr} {pos : Pos} {x : Str} {k : Int} {ch : Nat} (h₁ : Ev c A env ρ (eval value env) (.str x)) (h₂ : Ev c A env ρ (eval slice env) (.int k)) (hr : (decide (k < -(2 ^ 63 : Int)) || decide (k ≥ 2 ^ 63)) = false)
    (hx : (seqIndex? k x.length).bind (x.cps[·]?) = some ch) : Ev c A env ρ (eval (.Subscript value slice pos) env) (.str ⟨#[ch]⟩) := by
  refine ⟨fun s Q E g hs' hQ => ?_⟩
  refine Subscript_ (h₁.run s _ _ g hs' fun a s₁ g₁ k₁ r₁ => h₂.run s₁ _ _ g₁ (hs'.mono k₁) fun b s₂ g₂ k₂ r₂ => ?_)
  have r₁' := r₁.mono k₂.kl
  obtain ⟨t, rfl⟩ := rp_int.mp r₂
  obtain ⟨u, rfl⟩ := rp_str.mp r₁'
  refine tail_go (typeIs_str _ _ _) PySem.F.slot_str_getitem.lookup (P.getItem_str hr hx ?_)
  exact hQ _ _ g₂.tok (k₁.trans k₂) (rp_str.mpr ⟨_, rfl⟩)

/-- a slice's part -/
def EvP (c : Cx) (A : Around) (env : Env) (ρ : Rho) (e : Option Expr) (k : Option Int) : Prop :=
  match e, k with
  | none, none => True
  | some e, some k => Ev c A env ρ (eval e env) (.int k)
  | _, _ => False
theorem evp_none : EvP c A env ρ none none := trivial
theorem evp_some {e : Expr} {k : Int} (h : Ev c A env ρ (eval e env) (.int k)) : EvP c A env ρ (some e) (some k) := h
theorem evp_run {e : Option Expr} {k : Option Int} (h : EvP c A env ρ e k) {s : Shared} {Q : Value → Shared → Prop} {E : Value → Shared → Prop} (g : G c s) (hs : Has c env s.heap ρ)
    (hQ : ∀ v s', G c s' → KK s.heap s'.heap → IsPart v k → Q v s') : wpAny (model c.prog c.w) A (evalPart e env) Q E s := by
  cases e with
  | none =>
    cases k with
    | none => exact evalPart_none_step (hQ _ s g (KK.refl _) .none)
    | some k => exact h.elim
  | some e =>
    cases k with
    | none => exact h.elim
    | some k =>
      refine evalPart_some_step (h.run s _ _ g hs fun v s₁ g₁ k₁ r₁ => ?_)
      obtain ⟨t, rfl⟩ := rp_int.mp r₁
      exact hQ _ _ g₁ k₁ (.int k t)

def sliceL (xs : List D) (lo hi st : Option Int) : List D :=
  (sliceRange (sliceBounds lo hi st xs.length).1 (sliceBounds lo hi st xs.length).2.1 (sliceBounds lo hi st xs.length).2.2).filterMap (xs[·]?)
theorem filterMap_get {X : Addr → Prop} {h : Heap} {vs : List Value} {ds : List D} (r : RpL X h vs ds) : ∀ l : List Nat, RpL X h (l.filterMap (vs[·]?)) (l.filterMap (ds[·]?))
  | [] => RpL.nil
  | i :: l => by
    have ih := filterMap_get r l
    cases e : ds[i]? with
    | none =>
      have e' : vs[i]? = none := by
        cases q : vs[i]? with
        | none => rfl
        | some v => obtain ⟨d, hd, _⟩ := r.get' q; rw [hd] at e; cases e
      simpa [List.filterMap_cons, e, e'] using ih
    | some d =>
      obtain ⟨v, hv, rv⟩ := r.get e
      simpa [List.filterMap_cons, e, hv] using RpL.cons rv ih
/-- a slice of a list -/
theorem ev_sliceL {value : Expr} {l u st : Option Expr} {p pos : Pos} {xs : List D} {lo hi k : Option Int} (h₁ : Ev c A env ρ (eval value env) (.list xs)) (hl : EvP c A env ρ l lo) (hu : EvP c A env ρ u hi) (hk : EvP c A env ρ st k) (h0 : k ≠ some 0) (hz : xs.length ≤ sizeLine) :
    Ev c A env ρ (eval (.Subscript value (.Slice l u st p) pos) env) (.list (sliceL xs lo hi k)) := by
  refine ⟨fun s Q E g hs' hQ => ?_⟩
  refine Subscript_ (h₁.run s _ _ g hs' fun a s₁ g₁ k₁ r₁ => wpAny_Slice (evp_run hl g₁ (hs'.mono k₁) fun v1 s₂ g₂ k₂ p₁ => evp_run hu g₂ (hs'.mono (k₁.trans k₂)) fun v2 s₃ g₃ k₃ p₂ => evp_run hk g₃ (hs'.mono ((k₁.trans k₂).trans k₃)) fun v3 s₄ g₄ k₄ p₃ => ?_))
  have kp := KK.push s₄.heap { cls := .type "slice", data := .fields #[v1, v2, v3] }
  have r₁' := (((r₁.mono k₂.kl).mono k₃.kl).mono k₄.kl).mono kp.kl
  obtain ⟨a, items, rfl, _, hl', rl⟩ := rp_list.mp r₁'
  have e1 := rl.length
  simp only [Array.length_toList] at e1
  refine tail_go (Heap.IsList.typeIs (s := { s₄ with heap := s₄.heap.push _ }) hl'.isList) slot_list_getitem.lookup ?_
  refine wpAny_getItem_list_slice (vl := v1) (vu := v2) (vs := v3) hl'.isList (Heap.IsSliceOf.new ..) p₁ p₂ p₃ h0 ?_ (by omega)
  have e : slicePick items lo hi k = ((sliceRange (sliceBounds lo hi k items.size).1 (sliceBounds lo hi k items.size).2.1 (sliceBounds lo hi k items.size).2.2).filterMap (items.toList[·]?)).toArray := by simp [slicePick]
  rw [e, e1]
  have g₅ : G c { s₄ with heap := s₄.heap.push { cls := .type "slice", data := .fields #[v1, v2, v3] } } := g₄.push (t := s₄.toks)
  exact hQ _ _ (g₅.push (t := s₄.toks)) ((((k₁.trans k₂).trans k₃).trans k₄).trans (kp.trans (KK.push _ _))) (new_list (s := { s₄ with heap := s₄.heap.push { cls := .type "slice", data := .fields #[v1, v2, v3] } }) g₅ (filterMap_get rl _))

theorem fm_take {α : Type} (l : List α) (k : Nat) : ∀ n : Nat, ((List.range n).map fun j => k + j).filterMap (l[·]?) = (l.drop k).take n
  | 0 => rfl
  | n + 1 => by
    rw [List.range_succ, List.map_append, List.filterMap_append, fm_take l k n, List.take_add_one]
    congr 1
    rw [List.getElem?_drop, List.map_cons, List.map_nil, List.filterMap_cons]
    cases l[k + n]? <;> simp
theorem slice_from (x : Str) (k : Nat) (hk : k ≤ x.length) : Txt.slice x (some (k : Int)) none = ⟨(x.cps.toList.drop k).toArray⟩ := by
  have hsr : Builtin.Str.strSliceIndices (some (k : Int)) none 1 x.length = (List.range (x.length - k)).map fun j => k + j := by
    unfold Builtin.Str.strSliceIndices
    simp only [sliceRange]
    have h1 : ¬ ((k : Int) < 0) := by omega
    have h2 : min (k : Int) (x.length : Int) = k := by omega
    have h3 : max 0 (k : Int) = k := by omega
    simp [h1, h2, h3]
    by_cases hlt : (k : Int) < x.length
    · have hlt' : k < x.length := by omega
      simp only [hlt', if_true]
      have : ((x.length : Int) - k).toNat = x.length - k := by omega
      rw [this]
      apply List.map_congr_left
      intro a _; omega
    · have hlt' : ¬ k < x.length := by omega
      simp only [hlt', if_false]
      have : x.length - k = 0 := by omega
      simp [this]
  unfold Txt.slice
  rw [hsr]
  have hfm : ((List.range (x.length - k)).map fun j => k + j).filterMap (x.cps[·]?) = x.cps.toList.drop k := by
    have := fm_take x.cps.toList k (x.length - k)
    simp only [Array.getElem?_toList] at this
    rw [this, List.take_of_length_le]
    simp [Str.length]
  rw [hfm]
  split
  · rename_i h
    simp at h
    have : k = 0 ∨ x.length = 0 := by omega
    rcases this with rfl | h0
    · simp
    · obtain ⟨cps⟩ := x
      simp [Str.length] at h0
      subst h0
      simp
  · rfl
/-- the rest of a text -/
theorem ev_rest {value l : Expr} {p pos : Pos} {x : Str} {k : Nat} (h₁ : Ev c A env ρ (eval value env) (.str x)) (hl : Ev c A env ρ (eval l env) (.int k)) (hk : k ≤ x.length) (hz : x.length ≤ sizeLine) :
    Ev c A env ρ (eval (.Subscript value (.Slice (some l) none none p) pos) env) (.str ⟨(x.cps.toList.drop k).toArray⟩) := by
  refine ⟨fun s Q E g hs' hQ => ?_⟩
  refine Subscript_ (h₁.run s _ _ g hs' fun a s₁ g₁ k₁ r₁ => wpAny_Slice (evalPart_some_step (hl.run s₁ _ _ g₁ (hs'.mono k₁) fun v1 s₂ g₂ k₂ p₁ => evalPart_none_step (evalPart_none_step ?_))))
  obtain ⟨t, rfl⟩ := rp_int.mp p₁
  obtain ⟨u, rfl⟩ := rp_str.mp (r₁.mono k₂.kl)
  refine tail_go (typeIs_str _ _ _) PySem.F.slot_str_getitem.lookup ?_
  refine wpAny_getItem_str_slice (l := some ((k : Int), t)) (u := none) (st := none) ⟨_, Heap.get?_push_size _ rfl, rfl, rfl⟩ rfl ?_
  refine post_val_or_str ⟨Nat.le_trans (Txt.slice_le x _ _) hz, fun t' kk => ?_⟩
  have e := slice_from x k hk
  refine hQ _ _ (g₂.push (t := kk)) ((k₁.trans k₂).trans (KK.push _ _)) (rp_str.mpr ⟨t', ?_⟩)
  rw [← e]
  rfl
end
end Mine
end
/-! MIter -/
section
open PySem PySem.W PyProof.Rows
set_option linter.unusedVariables false
namespace Mine

/-- room for calls -/
structure Rm (A : Around) (k : Nat) : Prop where
  hd : A.handled = none
  depth : A.depth + k < 900
  units : A.units + 10 * k < 5000
theorem Rm.le {A : Around} {k j : Nat} (h : Rm A k) (hj : j ≤ k) : Rm A j := ⟨h.hd, by have := h.depth; omega, by have := h.units; omega⟩
theorem Rm.in1 {A : Around} {k : Nat} (h : Rm A (k + 1)) : Rm A.in1 k := ⟨h.hd, by have := h.depth; show A.depth + k < 900; omega, by have := h.units; show A.units + 1 + 10 * k < 5000; omega⟩
theorem Rm.deeper {A : Around} {k : Nat} {env : Env} (h : Rm A (k + 1)) : Rm (A.deeper env) k := ⟨h.hd, by have := h.depth; show A.depth + 1 + k < 900; omega, by have := h.units; show A.units + 3 + 10 * k < 5000; omega⟩
theorem Rm.lim {A : Around} {k : Nat} (h : Rm A k) : A.depth < recursionLimit := by have := h.depth; show A.depth < 1000; omega
theorem Rm.room {A : Around} {k : Nat} (h : Rm A k) : A.units + 64 < cLine := by have := h.units; show A.units + 64 < 9900; omega

/-- an iterator over data -/
structure Src (c : Cx) (H : Heap) (I : Addr) (ds : List D) (fp : List Addr) (P : Nat → Value → Prop) (St : Nat → Heap → Prop) : Prop where
  W : ∀ A : Around, A.handled = none → Walks c.prog c.w A I fp [I] ds.length P St
  start : St 0 H
  old : c.h₀.get? I = none
  nav : ¬ c.av I
  here : ∀ b ∈ fp, ∃ o, H.get? b = some o ∧ (∀ es ep, o.data ≠ .dict es ep) ∧ (∀ v, o.data ≠ .cell v) ∧ ¬ c.av b
  nt : ∀ i h b o, St i h → b ∈ fp → h.get? b = some o → NT o
  data : ∀ i v d, P i v → ds[i]? = some d → Rp c.av H v d
  nl : ∀ i h items, St i h → ¬ h.PlainList I items
theorem Src.has {c : Cx} {H : Heap} {I : Addr} {ds : List D} {fp : List Addr} {P : Nat → Value → Prop} {St : Nat → Heap → Prop} (S : Src c H I ds fp P St) : I ∈ fp := (S.W {} rfl).sub I (by simp)
/-- the state of an iterator is kept with all that is kept -/
theorem Src.kk {c : Cx} {H : Heap} {I : Addr} {ds : List D} {fp : List Addr} {P : Nat → Value → Prop} {St : Nat → Heap → Prop} (S : Src c H I ds fp P St) {i : Nat} {h h' : Heap} (st : St i h) (k : KK h h') : St i h' :=
  (S.W {} rfl).frame i h h' st fun b hb o e => k b o (S.nt i h b o st hb e) e
theorem Src.same {c : Cx} {H : Heap} {I : Addr} {ds : List D} {fp : List Addr} {P : Nat → Value → Prop} {St : Nat → Heap → Prop} (S : Src c H I ds fp P St) {i : Nat} {h h' : Heap} {a : Addr} (st : St i h) (k : Heap.ExtBut a h h') (ha : a ∉ fp) : St i h' :=
  (S.W {} rfl).frame i h h' st fun b hb o e => k b o (fun q => ha (q ▸ hb)) e

structure It (c : Cx) (A : Around) (env : Env) (ρ : Rho) (iter : Expr) (ds : List D) : Prop where
  run : ∀ (s : Shared) (Q : Value → Shared → Prop) (E : Value → Shared → Prop), G c s → Has c env s.heap ρ →
    (∀ I s' fp P St, G c s' → KK s.heap s'.heap → Src c s'.heap I ds fp P St → (∀ o, NT o → s.heap.get? I ≠ some o) → Q (.ref I) s') → wpAny (model c.prog c.w) A (eval iter env) (fun x s₁ => wpAny (model c.prog c.w) A (pyIter x) Q E s₁) E s

section
variable {c : Cx} {A : Around} {env : Env} {ρ : Rho}
theorem kk_fresh {h h' : Heap} (k : KK h h') {a : Addr} (ha : h'.objs.size ≤ a) : ∀ o, NT o → h.get? a ≠ some o := fun o n e => Nat.lt_irrefl _ (Nat.lt_of_lt_of_le (Heap.lt_size (k a o n e)) ha)
theorem src_list {s : Shared} (g : G c s) {a : Addr} {items : Array Value} {ds : List D} (ha : ¬ c.av a) (hl : s.heap.PlainList a items) (r : RpL c.av s.heap items.toList ds) :
    Src c (s.heap.push { cls := .type "list_iterator", data := .fields #[.ref a, .int 0 0] }) s.heap.objs.size ds [s.heap.objs.size, a] (fun i v => items[i]? = some v) (fun i h => h.IsListIter s.heap.objs.size a i ∧ h.IsList a items) := by
  have e1 := r.length
  simp only [Array.length_toList] at e1
  have hne : a ≠ s.heap.objs.size := by obtain ⟨n, ho⟩ := hl; exact Nat.ne_of_lt (Heap.lt_size ho)
  refine ⟨fun A hA => e1 ▸ Walks.list hA _ a hne items, ⟨⟨_, Heap.get?_push_size _ rfl, rfl, rfl⟩, hl.isList.push _⟩, g.fresh, g.navs, ?_, ?_, ?_, ?_⟩
  · intro b hb
    simp only [List.mem_cons, List.not_mem_nil, or_false] at hb
    rcases hb with rfl | rfl
    · exact ⟨_, Heap.get?_push_size _ rfl, nofun, nofun, g.navs⟩
    · obtain ⟨n, ho⟩ := hl; exact ⟨_, Heap.get?_push_of_some _ ho, nofun, nofun, ha⟩
  · rintro i h b o ⟨⟨oi, hoi, hci, _⟩, ⟨ol, hol, hcl, _⟩⟩ hb e
    simp only [List.mem_cons, List.not_mem_nil, or_false] at hb
    rcases hb with rfl | rfl
    · rw [hoi] at e; cases e; exact NT.cls (by rw [hci]; nofun)
    · rw [hol] at e; cases e; exact NT.cls (by rw [hcl]; nofun)
  · intro i v d hv hd
    obtain ⟨v', hv', rv⟩ := r.get hd
    have : items.toList[i]? = some v := by simpa using hv
    rw [this] at hv'; cases hv'
    exact rv.mono (KK.push _ _).kl
  · rintro i h its ⟨⟨oi, hoi, hci, _⟩, _⟩ ⟨n, ho⟩
    rw [hoi] at ho; cases ho; simp at hci
theorem it_list {iter : Expr} {ds : List D} (h : Ev c A env ρ (eval iter env) (.list ds)) : It c A env ρ iter ds := by
  refine ⟨fun s Q E g hs hQ => ?_⟩
  refine h.run s _ _ g hs fun v s₁ g₁ k₁ r₁ => ?_
  obtain ⟨a, items, rfl, ha, hl, r⟩ := rp_list.mp r₁
  refine wpAny_pyIter_list hl.isList ?_
  exact hQ _ _ _ _ _ (g₁.push (t := s₁.toks)) (k₁.trans (KK.push _ _)) (src_list g₁ ha hl r) (kk_fresh k₁ (Nat.le_refl _))

theorem src_range {s : Shared} (g : G c s) (a : Int) (n : Nat) :
    Src c (s.heap.push { cls := .type "range_iterator", data := .fields #[rawInt a, rawInt n, rawInt 1] }) s.heap.objs.size ((List.range n).map fun (i : Nat) => D.int (a + i)) [s.heap.objs.size]
      (fun i v => ∃ t, v = .int (a + i * 1) t) (fun i h => IsRangeIter h s.heap.objs.size (a + (i : Nat) * 1) ((n : Int) - (i : Nat)) 1) := by
  refine ⟨fun A hA => ?_, ?_, g.fresh, g.navs, ?_, ?_, ?_, ?_⟩
  · have := Walks.range (prog := c.prog) (w := c.w) hA s.heap.objs.size a 1 n
    simpa using this
  · show (s.heap.push _).get? _ = _
    rw [Heap.get?_push_size _ rfl]
    simp
  · intro b hb
    simp only [List.mem_cons, List.not_mem_nil, or_false] at hb
    subst hb
    exact ⟨_, Heap.get?_push_size _ rfl, nofun, nofun, g.navs⟩
  · intro i h b o st hb e
    simp only [List.mem_cons, List.not_mem_nil, or_false] at hb
    subst hb
    rw [show h.get? _ = _ from st] at e
    cases e
    exact NT.cls nofun
  · rintro i v d ⟨t, rfl⟩ hd
    simp only [List.getElem?_map] at hd
    cases e : (List.range n)[i]? with
    | none => rw [e] at hd; cases hd
    | some j =>
      rw [e] at hd
      have hj : j = i := by
        obtain ⟨hi, hj⟩ := List.getElem?_eq_some_iff.mp e
        simpa using hj.symm
      subst hj
      cases hd
      rw [rp_int]
      exact ⟨t, by simp⟩
  · rintro i h its st ⟨n, ho⟩
    rw [show h.get? _ = _ from st] at ho
    simp at ho
theorem it_range1 {x : Str} {p pos : Pos} {e : Expr} {n : Nat} (O : c.Ok) (ok : EnvOk env) (hx : env.kindOf x = some .globalImplicit) (hd : (x == ("__debug__" : Str)) = false)
    (hf : c.mg x = none ∧ c.mb x = some (.type "range")) (h : Ev c A env ρ (eval e env) (.int n)) (hn : n < 2 ^ 62)
    (he : notStar e = true := by rfl) : It c A env ρ (.Call (.Name x p) [e] [] pos) ((List.range n).map fun (i : Nat) => D.int i) := by
  refine ⟨fun s Q E g hs hQ => ?_⟩
  refine wpAny_Call_NameR (load_global O ok g hx hd (.inr hf) ?_)
  refine callWith_type1 ((evl_cons h evl_nil he).run s _ _ g hs fun vs s₁ g₁ k₁ r₁ => ?_) (star_cons he)
  obtain ⟨v, r, rfl, hv, hr⟩ := (by simpa only [RpL] using r₁ : ∃ v r, vs = v :: r ∧ Rp c.av s₁.heap v (.int n) ∧ r = [])
  subst hr
  obtain ⟨t, rfl⟩ := rp_int.mp hv
  refine call_range_1 ?_
  refine wpAny_pyIter_range (IsRange.new ..) (small_one (by omega) (by omega) (by omega) (by omega)) ?_
  have g₂ : G c { s₁ with heap := s₁.heap.push { cls := .type "range", data := .fields #[.int 0 s₁.toks, .int n t, .int 1 (s₁.toks + 1)] }, toks := s₁.toks + 1 + 1 } := g₁.push
  have hz : Builtin.Range.rangeSize 0 (n : Int) 1 = (n : Int) := by rw [rangeSize_one]; split <;> omega
  rw [hz]
  have S := src_range g₂ 0 n
  simp only [Int.zero_add] at S
  exact hQ _ _ _ _ _ (g₂.push (t := s₁.toks + 1 + 1)) (k₁.trans ((KK.push _ _).trans (KK.push _ _))) S (kk_fresh k₁ (by rw [Heap.size_push]; omega))
theorem it_range2 {x : Str} {p pos : Pos} {e e' : Expr} {a : Int} {n : Nat} (O : c.Ok) (ok : EnvOk env) (hx : env.kindOf x = some .globalImplicit) (hd : (x == ("__debug__" : Str)) = false)
    (hf : c.mg x = none ∧ c.mb x = some (.type "range")) (h : Ev c A env ρ (eval e env) (.int a)) (h' : Ev c A env ρ (eval e' env) (.int (a + n))) (ha : -(2 ^ 60) ≤ a) (ha' : a ≤ 2 ^ 60) (hn : n < 2 ^ 60)
    (he : notStar e = true := by rfl) (he' : notStar e' = true := by rfl) : It c A env ρ (.Call (.Name x p) [e, e'] [] pos) ((List.range n).map fun (i : Nat) => D.int (a + i)) := by
  refine ⟨fun s Q E g hs hQ => ?_⟩
  refine wpAny_Call_NameR (load_global O ok g hx hd (.inr hf) ?_)
  refine callWith_type1 ((evl_cons h (evl_cons h' evl_nil he') he).run s _ _ g hs fun vs s₁ g₁ k₁ r₁ => ?_) (star_cons he) (star_plain (by simp [he']))
  obtain ⟨v, r, rfl, hv, v2, r2, rfl, hv2, hr⟩ := (by simpa only [RpL] using r₁ : ∃ v r, vs = v :: r ∧ Rp c.av s₁.heap v (.int a) ∧ ∃ v2 r2, r = v2 :: r2 ∧ Rp c.av s₁.heap v2 (.int (a + n)) ∧ r2 = [])
  subst hr
  obtain ⟨t, rfl⟩ := rp_int.mp hv
  obtain ⟨u, rfl⟩ := rp_int.mp hv2
  refine call_range_2 ?_
  refine wpAny_pyIter_range (IsRange.new ..) (small_one (by omega) (by omega) (by omega) (by omega)) ?_
  have g₂ : G c { s₁ with heap := s₁.heap.push { cls := .type "range", data := .fields #[.int a t, .int (a + n) u, .int 1 s₁.toks] }, toks := s₁.toks + 1 } := g₁.push
  have hz : Builtin.Range.rangeSize a (a + n) 1 = (n : Int) := by rw [rangeSize_one]; split <;> omega
  rw [hz]
  exact hQ _ _ _ _ _ (g₂.push (t := s₁.toks + 1)) (k₁.trans ((KK.push _ _).trans (KK.push _ _))) (src_range g₂ a n) (kk_fresh k₁ (by rw [Heap.size_push]; omega))

theorem src_str {s : Shared} (g : G c s) (x : Str) (t : Tok) (ty : String) (hty : ty = "str_ascii_iterator" ∨ ty = "str_iterator")
    (W : ∀ A : Around, A.handled = none → Walks c.prog c.w A s.heap.objs.size [s.heap.objs.size] [s.heap.objs.size] x.cps.size (SignAt x) (fun i h => h.IsStrIter s.heap.objs.size ty x t i)) :
    Src c (s.heap.push { cls := .type ty, data := .fields #[.str x t, .int 0 0] }) s.heap.objs.size (x.cps.toList.map fun k => D.str ⟨#[k]⟩) [s.heap.objs.size] (SignAt x) (fun i h => h.IsStrIter s.heap.objs.size ty x t i) := by
  have hn : (x.cps.toList.map fun k => D.str ⟨#[k]⟩).length = x.cps.size := by simp
  refine ⟨fun A hA => hn ▸ W A hA, ⟨_, Heap.get?_push_size _ rfl, rfl, rfl⟩, g.fresh, g.navs, ?_, ?_, ?_, ?_⟩
  · intro b hb
    simp only [List.mem_cons, List.not_mem_nil, or_false] at hb
    subst hb
    exact ⟨_, Heap.get?_push_size _ rfl, nofun, nofun, g.navs⟩
  · rintro i h b o ⟨oi, hoi, hci, _⟩ hb e
    simp only [List.mem_cons, List.not_mem_nil, or_false] at hb
    subst hb
    rw [hoi] at e; cases e; exact NT.cls (by rw [hci]; nofun)
  · rintro i v d ⟨k, u, hk, rfl⟩ hd
    rw [List.getElem?_map, Array.getElem?_toList, hk] at hd
    cases hd
    rw [rp_str]
    exact ⟨u, rfl⟩
  · rintro i h its ⟨oi, hoi, hci, _⟩ ⟨n, ho⟩
    rw [hoi] at ho; cases ho
    rcases hty with rfl | rfl <;> simp at hci
theorem it_str {iter : Expr} {x : Str} (h : Ev c A env ρ (eval iter env) (.str x)) : It c A env ρ iter (x.cps.toList.map fun k => D.str ⟨#[k]⟩) := by
  refine ⟨fun s Q E g hs hQ => ?_⟩
  refine h.run s _ _ g hs fun v s₁ g₁ k₁ r₁ => ?_
  obtain ⟨t, rfl⟩ := rp_str.mp r₁
  cases ha : x.cps.all (· < 128)
  · exact wpAny_pyIter_wide ha (hQ _ _ _ _ _ (g₁.push (t := s₁.toks)) (k₁.trans (KK.push _ _)) (src_str g₁ x t _ (.inr rfl) fun A hA => Walks.strWide hA _ x t) (kk_fresh k₁ (Nat.le_refl _)))
  · exact wpAny_pyIter_ascii ha (hQ _ _ _ _ _ (g₁.push (t := s₁.toks)) (k₁.trans (KK.push _ _)) (src_str g₁ x t _ (.inl rfl) fun A hA => Walks.strAscii hA _ x t) (kk_fresh k₁ (Nat.le_refl _)))
end
end Mine
end
/-! MStmt -/
section
open PySem PySem.W PyProof.Rows
set_option linter.unusedVariables false
namespace Mine

/-- all is kept but the block's own places and the lists that are being written -/
def KF (env : Env) (N : Str → Prop) (W : Addr → Prop) (h h' : Heap) : Prop := ∀ b o, NT o → b ≠ env.locals → (∀ y, N y → env.cells.lookup y ≠ some b) → ¬ W b → h.get? b = some o → h'.get? b = some o
def Tr : Str → Prop := fun _ => True
theorem KF.refl {env : Env} {N : Str → Prop} {W : Addr → Prop} (h : Heap) : KF env N W h h := fun _ _ _ _ _ _ e => e
theorem KF.trans {env : Env} {N : Str → Prop} {W : Addr → Prop} {a b c : Heap} (x : KF env N W a b) (y : KF env N W b c) : KF env N W a c := fun p o n h1 h2 h3 e => y p o n h1 h2 h3 (x p o n h1 h2 h3 e)
theorem KK.kf {env : Env} {N : Str → Prop} {W : Addr → Prop} {h h' : Heap} (k : KK h h') : KF env N W h h' := fun b o n _ _ _ e => k b o n e
theorem Own.notlist {c : Cx} {env : Env} {h : Heap} (w : Own c env h) (items : Array Value) : ¬ h.PlainList env.locals items := let ⟨_, n⟩ := w.ns; not_list_ns n items
theorem KF.kl {c : Cx} {env : Env} {N : Str → Prop} {W X : Addr → Prop} {h h' : Heap} (w : Own c env h) (hW : ∀ a, W a → X a) (k : KF env N W h h') : KL X h h' := by
  intro a items hn hl
  obtain ⟨n, ho⟩ := id hl
  refine ⟨n, k a _ (NT.cls nofun) (by rintro rfl; exact w.notlist _ hl) (fun y _ hy => ?_) (fun q => hn (hW a q)) ho⟩
  obtain ⟨v, hv⟩ := w.cells y a hy
  exact not_list_cell hv _ hl
theorem Own.same {c : Cx} {env : Env} {h h' : Heap} {a : Addr} (w : Own c env h) (hs : Heap.SameBut a h h') (h1 : a ≠ env.locals) (h2 : ∀ y, env.cells.lookup y ≠ some a) : Own c env h' :=
  ⟨let ⟨m, n⟩ := w.ns; ⟨m, n.sameBut hs (Ne.symm h1)⟩, fun y b e => let ⟨v, x⟩ := w.cells y b e; ⟨v, x.sameBut hs (by rintro rfl; exact h2 y e)⟩, w.old, w.oldC, w.nav, w.navC, w.apart⟩
theorem ns_cell_ne {h : Heap} {a b : Addr} {m : Str → Option Value} {v : Option Value} (x : h.Ns a m) (y : h.IsCell b v) : a ≠ b := by
  rintro rfl
  obtain ⟨o, es, ep, ho, hd, _⟩ := x
  obtain ⟨o', ho', hd'⟩ := y
  rw [ho] at ho'; cases ho'; rw [hd] at hd'; cases hd'

/-- where a name of the block is kept -/
def Kept (env : Env) (x : Str) : Prop := env.kindOf x = some .local ∨ (env.kindOf x = some .cell ∧ (env.cells.lookup x).isSome = true)

section
variable {c : Cx} {A : Around} {env : Env} {ρ : Rho}
theorem store_ok (O : c.Ok) (hk : env.scope.kind = .function) {s : Shared} {E : Value → Shared → Prop} {Q : Unit → Shared → Prop} {x : Str} {v : Value} {d : D} (g : G c s) (hs : Has c env s.heap ρ) (hx : Kept env x) (r : Rp c.av s.heap v d)
    (hQ : ∀ h' tk, G c { s with heap := h', toks := tk } → (∀ N W, N x → KF env N W s.heap h') → Has c env h' ((x, d) :: ρ) → Look env h' x v → (∃ a, Heap.SameBut a s.heap h' ∧ (a = env.locals ∨ ∃ y, env.cells.lookup y = some a)) → (∀ y u, y ≠ x → Look env s.heap y u → Look env h' y u) → Q () { s with heap := h', toks := tk }) :
    wpAny (model c.prog c.w) A (storeName env x v) Q E s := by
  have w := hs.own
  obtain ⟨m, hm⟩ := w.ns
  rcases hx with hx | ⟨hx, hc⟩
  · refine wpAny_storeName_local hx hm (fun h' hn' hs' => ?_) (by rw [hk]; rfl)
    have kf : ∀ (N : Str → Prop) (W : Addr → Prop), N x → KF env N W s.heap h' := fun N W _ b o n h1 h2 h3 e => hs'.extBut b o h1 e
    have kl : KL c.av s.heap h' := KL.same hs' (not_list_ns hm)
    have lx : Look env h' x v := .inl ⟨hx, _, hn', by simp⟩
    have lk : ∀ y u, y ≠ x → Look env s.heap y u → Look env h' y u := by
      intro y u hne l
      rcases l with ⟨hl, m', hm', hv⟩ | ⟨hl, cc, hcc, hcv⟩
      · refine .inl ⟨hl, _, hn', ?_⟩
        have : m' y = m y := by
          obtain ⟨o1, es1, ep1, ho1, hd1, _, hf1⟩ := hm'
          obtain ⟨o2, es2, ep2, ho2, hd2, _, hf2⟩ := hm
          rw [ho1] at ho2; cases ho2; rw [hd1] at hd2; cases hd2
          rw [← hf1, ← hf2]
        rw [this] at hv
        simp [hne, hv]
      · exact .inr ⟨hl, cc, hcc, hcv.sameBut hs' (Ne.symm (ns_cell_ne hm hcv))⟩
    refine hQ h' (s.toks + 1) (g.same O w.old hs' (.inl w.nav)) kf ⟨⟨⟨_, hn'⟩, fun y a e => ?_, w.old, w.oldC, w.nav, w.navC, w.apart⟩, fun y e hy => ?_⟩ lx ⟨_, hs', .inl rfl⟩ lk
    · obtain ⟨u, hu⟩ := w.cells y a e
      exact ⟨u, hu.sameBut hs' (Ne.symm (ns_cell_ne hm hu))⟩
    · rw [List.lookup_cons] at hy
      cases q : y == x with
      | true =>
        rw [q] at hy; cases hy
        have := eq_of_beq q
        subst this
        exact ⟨v, lx, r.mono kl⟩
      | false =>
        rw [q] at hy
        have hne : y ≠ x := fun e => by rw [e] at q; simp at q
        obtain ⟨u, l, ru⟩ := hs.get y e hy
        exact ⟨u, lk y u hne l, ru.mono kl⟩
  · obtain ⟨a, ha⟩ := Option.isSome_iff_exists.mp hc
    obtain ⟨v₀, hv₀⟩ := w.cells x a ha
    refine wpAny_storeName_cell hk hx ha hv₀ fun h' hc' hs' => ?_
    have kf : ∀ (N : Str → Prop) (W : Addr → Prop), N x → KF env N W s.heap h' := fun N W hN b o n h1 h2 h3 e => hs'.extBut b o (by rintro rfl; exact h2 x hN ha) e
    have kl : KL c.av s.heap h' := KL.same hs' (not_list_cell hv₀)
    have lx : Look env h' x v := .inr ⟨.inl hx, a, ha, hc'⟩
    have lk : ∀ y u, y ≠ x → Look env s.heap y u → Look env h' y u := by
      intro y u hne l
      rcases l with ⟨hl, m', hm', hv⟩ | ⟨hl, cc, hcc, hcv⟩
      · exact .inl ⟨hl, m', hm'.sameBut hs' (ns_cell_ne hm' hv₀), hv⟩
      · exact .inr ⟨hl, cc, hcc, hcv.sameBut hs' (by rintro rfl; exact hne (w.apart y x _ hcc ha))⟩
    refine hQ h' s.toks (g.same O (w.oldC x a ha) hs' (.inl (w.navC x a ha))) kf ⟨⟨⟨m, hm.sameBut hs' (ns_cell_ne hm hv₀)⟩, fun y b e => ?_, w.old, w.oldC, w.nav, w.navC, w.apart⟩, fun y e hy => ?_⟩ lx ⟨_, hs', .inr ⟨x, ha⟩⟩ lk
    · by_cases q : b = a
      · subst q; exact ⟨_, hc'⟩
      · obtain ⟨u, hu⟩ := w.cells y b e
        exact ⟨u, hu.sameBut hs' q⟩
    · rw [List.lookup_cons] at hy
      cases q : y == x with
      | true =>
        rw [q] at hy; cases hy
        have := eq_of_beq q
        subst this
        exact ⟨v, lx, r.mono kl⟩
      | false =>
        rw [q] at hy
        have hne : y ≠ x := fun e => by rw [e] at q; simp at q
        obtain ⟨u, l, ru⟩ := hs.get y e hy
        exact ⟨u, lk y u hne l, ru.mono kl⟩

/-- how a statement ends -/
inductive Oc where
  | next (ρ : Rho)
  | ret (d : D)
def Meets' (c : Cx) (env : Env) (h : Heap) (fl : Flow) : Oc → Prop
  | .next ρ => fl = .next ∧ Has c env h ρ
  | .ret d => ∃ v, fl = .ret v ∧ Rp c.av h v d ∧ Own c env h
structure Ex (c : Cx) (W : Addr → Prop) (A : Around) (env : Env) (ρ : Rho) (t : Sem Flow) (oc : Oc) : Prop where
  run : ∀ (s : Shared) (Q : Flow → Shared → Prop) (E : Value → Shared → Prop), G c s → Has c env s.heap ρ → (∀ fl s', G c s' → KF env Tr W s.heap s'.heap → Meets' c env s'.heap fl oc → Q fl s') → wpAny (model c.prog c.w) A t Q E s

variable {W : Addr → Prop}
theorem ex_nil : Ex c W A env ρ (execs [] env) (.next ρ) := ⟨fun s Q E g hs hQ => wpAny_execs_nil (hQ _ s g (KF.refl _) ⟨rfl, hs⟩)⟩
theorem ex_next {st : Stmt} {rest : List Stmt} {ρ' : Rho} {oc : Oc} (h : Ex c W A env ρ (exec st env) (.next ρ')) (h' : Ex c W A env ρ' (execs rest env) oc) : Ex c W A env ρ (execs (st :: rest) env) oc := by
  refine ⟨fun s Q E g hs hQ => ?_⟩
  refine wpAny_execs_cons (h.run s _ _ g hs fun fl s₁ g₁ k₁ hm => ?_)
  obtain ⟨rfl, hs₁⟩ := hm
  exact h'.run s₁ _ _ g₁ hs₁ fun fl s₂ g₂ k₂ hm₂ => hQ fl s₂ g₂ (k₁.trans k₂) hm₂
theorem ex_ret {st : Stmt} {rest : List Stmt} {d : D} (h : Ex c W A env ρ (exec st env) (.ret d)) : Ex c W A env ρ (execs (st :: rest) env) (.ret d) := by
  refine ⟨fun s Q E g hs hQ => ?_⟩
  refine wpAny_execs_cons (h.run s _ _ g hs fun fl s₁ g₁ k₁ hm => ?_)
  obtain ⟨v, rfl, r⟩ := hm
  exact hQ _ s₁ g₁ k₁ ⟨v, rfl, r⟩
theorem ex_Return {e : Expr} {pos : Pos} {d : D} (h : Ev c A env ρ (eval e env) d) : Ex c W A env ρ (exec (.Return (some e) pos) env) (.ret d) := by
  refine ⟨fun s Q E g hs hQ => ?_⟩
  exact wpAny_Return_some (h.run s _ _ g hs fun v s₁ g₁ k₁ r₁ => hQ _ s₁ g₁ k₁.kf ⟨v, rfl, r₁, hs.own.kk k₁⟩)
theorem ex_If {t : Expr} {b o : List Stmt} {pos : Pos} {tv : Bool} {oc : Oc} (ht : Tv c A env ρ (isTrue t env (eval t env)) tv) (h₁ : tv = true → Ex c W A env ρ (execs b env) oc) (h₂ : tv = false → Ex c W A env ρ (execs o env) oc) :
    Ex c W A env ρ (exec (.If t b o pos) env) oc := by
  refine ⟨fun s Q E g hs hQ => ?_⟩
  refine wpAny_If (ht.run s _ _ g hs fun s₁ g₁ k₁ => ?_)
  cases tv with
  | true => exact (h₁ rfl).run s₁ _ _ g₁ (hs.mono k₁) fun fl s₂ g₂ k₂ m₂ => hQ fl s₂ g₂ (k₁.kf.trans k₂) m₂
  | false => exact (h₂ rfl).run s₁ _ _ g₁ (hs.mono k₁) fun fl s₂ g₂ k₂ m₂ => hQ fl s₂ g₂ (k₁.kf.trans k₂) m₂
theorem ex_Assign {x : Str} {px pos : Pos} {e : Expr} {d : D} (O : c.Ok) (hk : env.scope.kind = .function) (hx : Kept env x) (h : Ev c A env ρ (eval e env) d) (hsw : swapsWith e (some (.Name x px)) pos.line env = pure false) :
    Ex c W A env ρ (exec (.Assign [.Name x px] e pos) env) (.next ((x, d) :: ρ)) := by
  refine ⟨fun s Q E g hs hQ => ?_⟩
  refine wpAny_Assign_Name (h.run s _ _ g hs fun v s₁ g₁ k₁ r₁ => store_ok O hk g₁ (hs.mono k₁) hx r₁ fun h' tk g' kf hs' _ _ _ => ?_) hsw
  exact hQ _ _ g' (k₁.kf.trans (kf Tr W trivial)) ⟨rfl, hs'⟩
theorem Ex.weak {t : Sem Flow} {ρ₀ ρ' ρ'' : Rho} (h : Ex c W A env ρ t (.next ρ')) (k₀ : ∀ x d, ρ.lookup x = some d → ρ₀.lookup x = some d) (k : ∀ x d, ρ''.lookup x = some d → ρ'.lookup x = some d) : Ex c W A env ρ₀ t (.next ρ'') := by
  refine ⟨fun s Q E g hs hQ => ?_⟩
  exact h.run s _ _ g ⟨hs.own, fun x d e => hs.get x d (k₀ x d e)⟩ fun fl s' g' kf hm => hQ fl s' g' kf ⟨hm.1, hm.2.own, fun x d e => hm.2.get x d (k x d e)⟩
theorem Ex.weakR {t : Sem Flow} {ρ₀ : Rho} {d : D} (h : Ex c W A env ρ t (.ret d)) (k₀ : ∀ x d, ρ.lookup x = some d → ρ₀.lookup x = some d) : Ex c W A env ρ₀ t (.ret d) := by
  refine ⟨fun s Q E g hs hQ => ?_⟩
  exact h.run s _ _ g ⟨hs.own, fun x d e => hs.get x d (k₀ x d e)⟩ hQ
theorem Own.ext {h h' : Heap} {a : Addr} (w : Own c env h) (hs : Heap.ExtBut a h h') (h1 : a ≠ env.locals) (h2 : ∀ y, env.cells.lookup y ≠ some a) : Own c env h' :=
  ⟨let ⟨m, n⟩ := w.ns; ⟨m, n.extBut hs (Ne.symm h1)⟩, fun y b e => let ⟨v, o, ho, hd⟩ := w.cells y b e; ⟨v, o, hs b o (by rintro rfl; exact h2 y e) ho, hd⟩, w.old, w.oldC, w.nav, w.navC, w.apart⟩
theorem Look.ext {h h' : Heap} {a : Addr} {x : Str} {v : Value} (l : Look env h x v) (hs : Heap.ExtBut a h h') (h1 : a ≠ env.locals) (h2 : ∀ y, env.cells.lookup y ≠ some a) : Look env h' x v := by
  rcases l with ⟨hl, m, hm, hv⟩ | ⟨hl, cc, hcc, o, ho, hd⟩
  · exact .inl ⟨hl, m, hm.extBut hs (Ne.symm h1), hv⟩
  · exact .inr ⟨hl, cc, hcc, o, hs cc o (by rintro rfl; exact h2 x hcc) ho, hd⟩
theorem Has.ext {h h' : Heap} {a : Addr} (l : Has c env h ρ) (hs : Heap.ExtBut a h h') (h1 : a ≠ env.locals) (h2 : ∀ y, env.cells.lookup y ≠ some a) (kl : KL c.av h h') : Has c env h' ρ := ⟨l.own.ext hs h1 h2, fun x d e =>
  let ⟨v, q, r⟩ := l.get x d e; ⟨v, q.ext hs h1 h2, r.mono kl⟩⟩
/-- an iterator's places are none of the block's -/
theorem Src.apart {H : Heap} {I : Addr} {ds : List D} {fp : List Addr} {P : Nat → Value → Prop} {St : Nat → Heap → Prop} (S : Src c H I ds fp P St) (w : Own c env H) {b : Addr} (hb : b ∈ fp) : b ≠ env.locals ∧ ∀ y, env.cells.lookup y ≠ some b := by
  obtain ⟨o, ho, h1, h2, _⟩ := S.here b hb
  refine ⟨?_, fun y hy => ?_⟩
  · rintro rfl
    obtain ⟨m, o', es, ep, ho', hd, _⟩ := w.ns
    rw [ho] at ho'; cases ho'; exact h1 _ _ hd
  · obtain ⟨v, o', ho', hd⟩ := w.cells y b hy
    rw [ho] at ho'; cases ho'; exact h2 _ hd
theorem Src.kf {N : Str → Prop} {H : Heap} {I : Addr} {ds : List D} {fp : List Addr} {P : Nat → Value → Prop} {St : Nat → Heap → Prop} (S : Src c H I ds fp P St) (w : Own c env H) (hW : ∀ a, W a → c.av a) {i : Nat} {h h' : Heap} (st : St i h) (k : KF env N W h h') : St i h' :=
  (S.W {} rfl).frame i h h' st fun b hb o e => k b o (S.nt i h b o st hb e) (S.apart w hb).1 (fun y _ => (S.apart w hb).2 y) (fun q => let ⟨_, _, _, _, n⟩ := S.here b hb; n (hW b q)) e
/-- a for over data, that comes to its end -/
theorem ex_For {x : Str} {px pos : Pos} {iter : Expr} {body : List Stmt} {ds : List D} (ρs : Nat → Rho) (O : c.Ok) (hA : A.handled = none) (hk : env.scope.kind = .function) (hx : Kept env x) (hW : ∀ a, W a → c.av a)
    (hit : It c A env ρ iter ds) (h0 : ∀ y d, (ρs 0).lookup y = some d → ρ.lookup y = some d)
    (hb : ∀ i d, ds[i]? = some d → Ex c W A env ((x, d) :: ρs i) (execs body env) (.next (ρs (i + 1))))
    (hfs : ∀ v, foldedSetIterable iter env v = pure v := by intro _; rfl) :
    Ex c W A env ρ (exec (.For (.Name x px) iter body [] pos) env) (.next (ρs ds.length)) := by
  refine ⟨fun s Q E g hs hQ => ?_⟩
  refine wpAny_For (hit.run s _ _ g hs fun I s₁ fp P St g₁ k₁ S hfr => ?_) hfs
  have w₁ := hs.own.kk k₁
  have hI := S.apart w₁ S.has
  refine codeAny_forLoop (fun n s' => ∃ i, i ≤ ds.length ∧ n = ds.length - i ∧ G c s' ∧ KF env Tr (fun a => W a ∨ a = I) s₁.heap s'.heap ∧ St i s'.heap ∧ Has c env s'.heap (ρs i) ∧ KL c.av s₁.heap s'.heap) ?_ ds.length
    ⟨0, Nat.zero_le _, rfl, g₁, KF.refl _, S.start, ⟨w₁, fun y d e => (hs.mono k₁).get y d (h0 y d e)⟩, KL.refl _⟩ (fun _ => rfl)
  rintro n s' ⟨i, hi, rfl, g', kf, st, hs', kl⟩
  by_cases hlt : i < ds.length
  · obtain ⟨d, hd⟩ : ∃ d, ds[i]? = some d := ⟨ds[i], by simp [hlt]⟩
    refine (S.W A hA).item i s' _ _ hlt st fun v h' tk hP st' hk' => ?_
    have he : Heap.ExtBut I s'.heap h' := fun b o hb e => hk' b o (by simpa using hb) e
    have kl1 : KL c.av s'.heap h' := KL.ext he (fun its => S.nl i _ its st)
    have g2 : G c { s' with heap := h', toks := tk } := g'.ext O S.old he S.nav
    have hs2 : Has c env h' (ρs i) := hs'.ext he hI.1 hI.2 kl1
    have r2 : Rp c.av h' v d := ((S.data i v d hP hd).mono kl).mono kl1
    refine wpAny_assign_Name (store_ok O hk (s := { s' with heap := h', toks := tk }) g2 hs2 hx r2 fun h3 tk3 g3 kf3 hs3 _ _ _ => ?_)
    refine (hb i d hd).run _ _ _ g3 hs3 fun fl s4 g4 kf4 hm => ?_
    obtain ⟨rfl, hs4⟩ := hm
    refine ⟨ds.length - (i + 1), by omega, i + 1, by omega, rfl, g4, ?_, ?_, hs4, ?_⟩
    · refine kf.trans (KF.trans (b := h') (fun b o n h1 h2 h3 e => he b o (fun q => h3 (.inr q)) e) (KF.trans (kf3 Tr _ trivial) ?_))
      exact fun b o n h1 h2 h3 e => kf4 b o n h1 h2 (fun q => h3 (.inl q)) e
    · exact S.kf w₁ hW (S.kf w₁ hW st' (kf3 Tr W trivial)) kf4
    · exact kl.trans (kl1.trans (((kf3 Tr W trivial).kl hs2.own hW).trans (kf4.kl hs3.own hW)))
  · have hi' : i = ds.length := by omega
    subst hi'
    refine (S.W A hA).done s' _ _ st fun h' tk hk' => ?_
    have he : Heap.ExtBut I s'.heap h' := fun b o hb e => hk' b o (by simpa using hb) e
    have kl1 : KL c.av s'.heap h' := KL.ext he (fun its => S.nl _ _ its st)
    refine wpAny_execs_nil (hQ _ _ (g'.ext O S.old he S.nav) ?_ ⟨rfl, hs'.ext he hI.1 hI.2 kl1⟩)
    intro b o n h1 h2 h3 e
    have hbI : b ≠ I := by rintro rfl; exact hfr o n e
    exact he b o hbI (kf b o n h1 h2 (fun q => q.elim h3 hbI) (k₁ b o n e))
/-- a call for its own sake -/
theorem ex_Expr {e : Expr} {pos : Pos} {d : D} (h : Ev c A env ρ (eval e env) d) (hi : interactive env = false) (hsw : swapsWith e none pos.line env = pure false) : Ex c W A env ρ (exec (.Expr e pos) env) (.next ρ) := by
  refine ⟨fun s Q E g hs hQ => ?_⟩
  exact wpAny_Expr_any (h.run s _ _ g hs fun v s₁ g₁ k₁ r₁ => hQ _ s₁ g₁ k₁.kf ⟨rfl, hs.mono k₁⟩) hi hsw
end
end Mine
end
/-! MComp -/
section
open PySem PySem.W PyProof.Rows
set_option linter.unusedVariables false
namespace Mine

section
variable {prog : Program} {w : World} {A : Around} {R : Result → Shared → Prop} {s : Shared}
theorem compStart_go {elt : Expr} {gens : List Comprehension} {scope : Scope} {pos : Pos} {k : Nat} {g : Comprehension} {it acc : Value} {env : Env} (hg : gens[k]? = some g) (ha : g.is_async = 0)
    (h0 : codeAny (model prog w) A (.compLoop (.ListComp elt gens scope pos) k it acc env) R s)
    (h : wpAny (model prog w) A (pyIter it) (fun it' s' => codeAny (model prog w) A (.compLoop (.ListComp elt gens scope pos) k it' acc env) R s') (notedBy (model prog w) A env fun x s' => R (.error x) s') s) :
    codeAny (model prog w) A (.compStart (.ListComp elt gens scope pos) k it acc env) R s := by
  refine codeAny_of_tree ?_
  show wpAny _ _ ((compStart (.ListComp elt gens scope pos) k it acc env).onRaise (fun x => do noteFrame x env; standAt theWindowsPlace)) _ _ s
  refine wpAny_notedAt ?_
  unfold compStart
  have e1 : (clausesOf (.ListComp elt gens scope pos))[k]? = some g := hg
  rw [e1]
  have e2 : ((some g).elim false (fun x => x.is_async != 0)) = false := by simp [ha]
  rw [e2]
  simp only [Bool.false_eq_true, if_false]
  refine wpAny_bind (wpAny_askSetting (wpAny_ite ?_))
  split
  · first
      | exact wpAny_bind (wpAny_pure (wpAny_pure (And.intro rfl h0)))
      | exact wpAny_pure (And.intro rfl h0)
  · first
      | exact wpAny_bind (wpAny_rule (wpAny_bind (wpAny_standAt (wpAny_bind (wpAny_mono h (fun it' s' h' => wpAny_pure (And.intro rfl h')) fun _ _ x => x)))))
      | (refine wpAny_bind (wpAny_rule ?_); show wpAny _ _ (standAt g.iter.pos >>= _) _ _ s; exact wpAny_bind (wpAny_standAt (wpAny_bind (wpAny_mono h (fun it' s' h' => wpAny_pure (And.intro rfl h')) fun _ _ x => x))))

theorem compLoop_go {elt target iter : Expr} {gens : List Comprehension} {scope : Scope} {pos : Pos} {k : Nat} {it acc : Value} {env : Env} {act : Sem Unit} (I : Nat → Shared → Prop)
    (ht : compTurn (.ListComp elt gens scope pos) k it acc env = (standAt iter.pos >>= fun _ => pyNext it >>= fun r => match r with
      | none => pure (.done .next)
      | some v => letOwnedTupleGo target it v >>= fun _ => assign target env v >>= fun _ => act >>= fun _ => again (.compLoop (.ListComp elt gens scope pos) k it acc env)))
    (turn : ∀ n s, I n s → wpAny (model prog w) A (pyNext it) (fun r s₁ => match r with
      | none => R (.ok .next) s₁
      | some v => wpAny (model prog w) A (assign target env v) (fun _ s₂ => wpAny (model prog w) A act (fun _ s₄ => ∃ m, m < n ∧ I m s₄)
          (notedBy (model prog w) A env fun e s' => R (.error e) s') s₂) (notedBy (model prog w) A env fun e s' => R (.error e) s') s₁) (notedBy (model prog w) A env fun e s' => R (.error e) s') s)
    (n : Nat) (h : I n s) (hl : ∀ v, letOwnedTupleGo target it v = pure ()) :
    codeAny (model prog w) A (.compLoop (.ListComp elt gens scope pos) k it acc env) R s := by
  refine codeAny_loop rfl I (fun n s hI => ?_) n h
  show wpAny _ _ ((compTurn (.ListComp elt gens scope pos) k it acc env).onRaise (fun x => do noteFrame x env; theTreesLotGoes x)) _ _ s
  refine wpAny_noted ?_
  rw [ht]
  refine wpAny_bind (wpAny_standAt (wpAny_bind (wpAny_mono (turn n s hI) (fun r s₁ h₁ => ?_) fun _ _ h' => h')))
  cases r with
  | none => exact wpAny_pure h₁
  | some v =>
    refine wpAny_bind (wpAny_of_eq (hl v) ?_)
    exact wpAny_bind (wpAny_mono h₁ (fun _ s₂ h₂ => wpAny_bind (wpAny_mono h₂ (fun _ s₄ h₄ => wpAny_pure ⟨rfl, h₄⟩) fun _ _ h' => h')) fun _ _ h' => h')
end

section
variable {c : Cx} {A : Around} {env : Env} {ρ : Rho} {N : Str → Prop}
/-- a turn's work: so many data more -/
structure Act (c : Cx) (N : Str → Prop) (A : Around) (env : Env) (D₀ : Addr) (ρ : Rho) (t : Sem Unit) (fs : List D) : Prop where
  run : ∀ (s : Shared) (Q : Unit → Shared → Prop) (E : Value → Shared → Prop) (vs : Array Value) (done : List D), G c s → Has c env s.heap ρ → s.heap.PlainList D₀ vs → RpL c.av s.heap vs.toList done → vs.size + fs.length ≤ sizeLine →
    (∀ s' vs', G c s' → KF env N (· = D₀) s.heap s'.heap → Has c env s'.heap ρ → s'.heap.PlainList D₀ vs' → RpL c.av s'.heap vs'.toList (done ++ fs) → Q () s') → wpAny (model c.prog c.w) A t Q E s
theorem list_ne_own {h : Heap} (w : Own c env h) {a : Addr} {vs : Array Value} (hl : h.PlainList a vs) : a ≠ env.locals ∧ ∀ y, env.cells.lookup y ≠ some a :=
  ⟨by rintro rfl; exact w.notlist _ hl, fun y hy => by obtain ⟨v, hv⟩ := w.cells y a hy; exact not_list_cell hv _ hl⟩
theorem act_last {D₀ : Addr} {elt : Expr} {d : D} (O : c.Ok) (hD : c.av D₀) (hD0 : c.h₀.get? D₀ = none) (h : Ev c A env ρ (eval elt env) d) : Act c N A env D₀ ρ (eval elt env >>= fun x => call (.builtin "list.append") [.ref D₀, x] >>= fun _ => pure ()) [d] := by
  refine ⟨fun s Q E vs done g hs hl r hz hQ => ?_⟩
  refine wpAny_bind (h.run s _ _ g hs fun v s₁ g₁ k₁ r₁ => wpAny_bind (wpAny_list_append_plain (k₁.list hl) (fun h' hl' hs' => wpAny_pure ?_) (by simp at hz; omega)))
  have w₁ := hs.own.kk k₁
  have ne := list_ne_own w₁ (k₁.list hl)
  have kl : KL c.av s₁.heap h' := KL.avoid hs' hD
  refine hQ _ _ (g₁.same O hD0 hs' (.inr (let ⟨n, ho⟩ := hl'; ⟨_, ho⟩))) ?_ ((hs.mono k₁).ext hs'.extBut ne.1 ne.2 kl) hl' ?_
  · exact k₁.kf.trans fun b o n h1 h2 h3 e => hs'.extBut b o h3 e
  · have := ((r.mono k₁.kl).append (RpL.one r₁)).mono kl
    simpa using this
theorem flat_le {α : Type} (f : Nat → List α) {i : Nat} : ∀ {n : Nat}, i < n → (((List.range i).map f).flatten).length + (f i).length ≤ (((List.range n).map f).flatten).length
  | n + 1, h => by
    rw [List.range_succ, List.map_append, List.flatten_append, List.length_append]
    by_cases q : i = n
    · subst q; simp
    · have := flat_le f (i := i) (n := n) (by omega)
      omega
/-- the loop of one clause -/
theorem comp_loop {D₀ I : Addr} {elt iter : Expr} {x : Str} {px : Pos} {gens : List Comprehension} {scope : Scope} {pos : Pos} {k : Nat} {act : Sem Unit} {ds : List D} {fss : Nat → List D} {H : Heap} {fp : List Addr} {P : Nat → Value → Prop} {St : Nat → Heap → Prop}
    {s : Shared} {R : Result → Shared → Prop} {vs : Array Value} {done : List D}
    (O : c.Ok) (hA : A.handled = none) (hk : env.scope.kind = .function) (hx : Kept env x) (hN : N x) (hD : c.av D₀) (S : Src c H I ds fp P St) (hH : H = s.heap)
    (ht : compTurn (.ListComp elt gens scope pos) k (.ref I) (.ref D₀) env = (standAt iter.pos >>= fun _ => pyNext (.ref I) >>= fun r => match r with
      | none => pure (.done .next)
      | some v => letOwnedTupleGo (.Name x px) (.ref I) v >>= fun _ => assign (.Name x px) env v >>= fun _ => act >>= fun _ => again (.compLoop (.ListComp elt gens scope pos) k (.ref I) (.ref D₀) env)))
    (ha : ∀ i d, ds[i]? = some d → Act c N A env D₀ ((x, d) :: ρ) act (fss i))
    (hz : vs.size + (((List.range ds.length).map fss).flatten).length ≤ sizeLine) (hρ : ρ.lookup x = none)
    (g : G c s) (hs : Has c env s.heap ρ) (hl : s.heap.PlainList D₀ vs) (r : RpL c.av s.heap vs.toList done)
    (hR : ∀ s' vs', G c s' → KF env N (fun a => a = D₀ ∨ a = I) s.heap s'.heap → Has c env s'.heap ρ → s'.heap.PlainList D₀ vs' → RpL c.av s'.heap vs'.toList (done ++ ((List.range ds.length).map fss).flatten) → R (.ok .next) s') :
    codeAny (model c.prog c.w) A (.compLoop (.ListComp elt gens scope pos) k (.ref I) (.ref D₀) env) R s := by
  subst hH
  have w := hs.own
  have hI := S.apart w S.has
  have hW : ∀ a, a = D₀ → c.av a := by rintro a rfl; exact hD
  have hDI : D₀ ≠ I := by rintro rfl; exact S.nav hD
  refine compLoop_go (fun n s' => ∃ i vs', i ≤ ds.length ∧ n = ds.length - i ∧ G c s' ∧ KF env N (fun a => a = D₀ ∨ a = I) s.heap s'.heap ∧ St i s'.heap ∧ Has c env s'.heap ρ ∧ KL c.av s.heap s'.heap ∧ s'.heap.PlainList D₀ vs' ∧ RpL c.av s'.heap vs'.toList (done ++ ((List.range i).map fss).flatten)) ht ?_ ds.length
    ⟨0, vs, Nat.zero_le _, rfl, g, KF.refl _, S.start, hs, KL.refl _, hl, by simpa using r⟩ (fun _ => rfl)
  rintro n s' ⟨i, vs', hi, rfl, g', kf, st, hs', kl, hl', r'⟩
  by_cases hlt : i < ds.length
  · obtain ⟨d, hd⟩ : ∃ d, ds[i]? = some d := ⟨ds[i], by simp [hlt]⟩
    refine (S.W A hA).item i s' _ _ hlt st fun v h' tk hP st' hk' => ?_
    have he : Heap.ExtBut I s'.heap h' := fun b o hb e => hk' b o (by simpa using hb) e
    have kl1 : KL c.av s'.heap h' := KL.ext he (fun its => S.nl i _ its st)
    have g2 : G c { s' with heap := h', toks := tk } := g'.ext O S.old he S.nav
    have hs2 : Has c env h' ρ := hs'.ext he hI.1 hI.2 kl1
    have w2 := hs2.own
    have r2 : Rp c.av h' v d := ((S.data i v d hP hd).mono kl).mono kl1
    have hl2 : h'.PlainList D₀ vs' := hl'.extBut he hDI
    refine wpAny_assign_Name (store_ok O hk (s := { s' with heap := h', toks := tk }) g2 hs2 hx r2 fun h3 tk3 g3 kf3 hs3 _ hsb _ => ?_)
    have kl3 : KL c.av h' h3 := (kf3 N (fun _ => False) hN).kl w2 (fun _ => False.elim)
    obtain ⟨a3, hsb3, ha3⟩ := hsb
    have hne3 : D₀ ≠ a3 := by
      rcases ha3 with rfl | ⟨y, hy⟩
      · exact (list_ne_own w2 hl2).1
      · rintro rfl; exact (list_ne_own w2 hl2).2 y hy
    have hl3 : h3.PlainList D₀ vs' := hl2.extBut hsb3.extBut hne3
    have hlen := r'.length
    have hsplit := flat_le fss hlt
    refine (ha i d hd).run _ _ _ vs' _ g3 hs3 hl3 ((r'.mono kl1).mono kl3) ?_ fun s4 vs4 g4 kf4 hs4 hl4 r4 => ?_
    · simp only [Array.length_toList, List.length_append] at hlen
      have := r.length
      simp only [Array.length_toList] at this
      omega
    refine ⟨ds.length - (i + 1), by omega, i + 1, vs4, by omega, rfl, g4, ?_, ?_, ?_, ?_, hl4, ?_⟩
    · refine kf.trans (KF.trans (b := h') (fun b o n h1 h2 h3 e => he b o (fun q => h3 (.inr q)) e) (KF.trans (kf3 N _ hN) ?_))
      exact fun b o n h1 h2 h3 e => kf4 b o n h1 h2 (fun q => h3 (.inl q)) e
    · exact S.kf w hW (S.kf w hW st' (kf3 N (· = D₀) hN)) kf4
    · refine ⟨hs4.own, fun y dd hy => ?_⟩
      refine hs4.get y dd ?_
      rw [List.lookup_cons]
      cases q : y == x with
      | false => exact hy
      | true => rw [eq_of_beq q, hρ] at hy; cases hy
    · exact kl.trans (kl1.trans (kl3.trans (kf4.kl hs3.own hW)))
    · rw [List.range_succ, List.map_append, List.flatten_append]
      simpa using r4
  · have hi' : i = ds.length := by omega
    subst hi'
    refine (S.W A hA).done s' _ _ st fun h' tk hk' => ?_
    have he : Heap.ExtBut I s'.heap h' := fun b o hb e => hk' b o (by simpa using hb) e
    have kl1 : KL c.av s'.heap h' := KL.ext he (fun its => S.nl _ _ its st)
    exact hR _ vs' (g'.ext O S.old he S.nav) (kf.trans fun b o n h1 h2 h3 e => he b o (fun q => h3 (.inr q)) e) (hs'.ext he hI.1 hI.2 kl1) (hl'.extBut he hDI) (r'.mono kl1)
end
end Mine
end
/-! MComp2 -/
section
open PySem PySem.W PyProof.Rows
set_option linter.unusedVariables false
namespace Mine

def closeL (env : Env) : List (Str × NameKind) → List (Str × Addr) → List (Str × Addr)
  | [], acc => acc
  | p :: r, acc => closeL env r (if p.2 == .free then (p.1, (env.cells.lookup p.1).getD 0) :: acc else acc)
theorem closure_loop {env : Env} (f : Str × NameKind → List (Str × Addr) → Sem (ForInStep (List (Str × Addr)))) (hf : ∀ n k cs, f (n, k) cs = if k == .free then (do let a ← cellOf env n; pure (.yield ((n, a) :: cs))) else pure (.yield cs)) :
    ∀ (names : List (Str × NameKind)) (acc : List (Str × Addr)), (∀ p ∈ names, p.2 = .free → (env.cells.lookup p.1).isSome = true) → forIn names acc f = pure (closeL env names acc)
  | [], acc, _ => by rw [List.forIn_nil]; rfl
  | (n, k) :: r, acc, h => by
    rw [List.forIn_cons, hf]
    have hr := closure_loop f hf r
    unfold closeL
    by_cases hk : (k == NameKind.free) = true
    · rw [if_pos hk, if_pos hk]
      obtain ⟨a, ha⟩ := Option.isSome_iff_exists.mp (h (n, k) List.mem_cons_self (by simpa using hk))
      have e : cellOf env n = pure a := by unfold cellOf; simp only at ha; rw [ha]
      rw [e]
      simp only [pure_bind]
      rw [hr _ fun p hp => h p (List.mem_cons_of_mem _ hp)]
      simp only at ha
      rw [ha]; rfl
    · rw [if_neg hk, if_neg hk]
      simp only [pure_bind]
      exact hr _ fun p hp => h p (List.mem_cons_of_mem _ hp)
theorem closureFor_is {scope : Scope} {env : Env} (h : ∀ p ∈ scope.names, p.2 = .free → (env.cells.lookup p.1).isSome = true) : closureFor scope env = pure (closeL env scope.names []) := by
  unfold closureFor
  have e := closure_loop (env := env) (fun (x : Str × NameKind) cs => match x with
    | (name, kind) => if (kind == NameKind.free) = true then (do let a ← cellOf env name; pure (ForInStep.yield ((name, a) :: cs))) else pure (ForInStep.yield cs)) (fun n k cs => rfl) scope.names [] h
  show (forIn scope.names [] _ >>= fun r => pure r) = _
  rw [show (forIn scope.names ([] : List (Str × Addr)) _ : Sem (List (Str × Addr))) = pure (closeL env scope.names []) from e]
  rfl
theorem closeL_sub {env : Env} {y : Str} {a : Addr} : ∀ {names : List (Str × NameKind)} {acc : List (Str × Addr)}, (∀ p ∈ names, p.2 = .free → (env.cells.lookup p.1).isSome = true) → (closeL env names acc).lookup y = some a → env.cells.lookup y = some a ∨ acc.lookup y = some a
  | [], acc, _, e => .inr e
  | p :: r, acc, h, e => by
    unfold closeL at e
    rcases closeL_sub (fun q hq => h q (List.mem_cons_of_mem _ hq)) e with e | e
    · exact .inl e
    · split at e
      · rename_i hk
        rw [List.lookup_cons] at e
        cases q : y == p.1 with
        | false => rw [q] at e; exact .inr e
        | true =>
          rw [q] at e
          obtain ⟨b, hb⟩ := Option.isSome_iff_exists.mp (h p List.mem_cons_self (by simpa using hk))
          rw [hb] at e
          cases e
          rw [eq_of_beq q]
          exact .inl hb
      · exact .inr e
theorem closeL_keep {env : Env} {y : Str} : ∀ {names : List (Str × NameKind)} {acc : List (Str × Addr)}, (∀ p ∈ names, p.2 = .free → (env.cells.lookup p.1).isSome = true) → acc.lookup y = env.cells.lookup y → (closeL env names acc).lookup y = env.cells.lookup y
  | [], _, _, e => e
  | p :: r, acc, h, e => by
    unfold closeL
    refine closeL_keep (fun q hq => h q (List.mem_cons_of_mem _ hq)) ?_
    split
    · rename_i hk
      rw [List.lookup_cons]
      cases q : y == p.1 with
      | false => exact e
      | true =>
        obtain ⟨b, hb⟩ := Option.isSome_iff_exists.mp (h p List.mem_cons_self (by simpa using hk))
        rw [eq_of_beq q, hb]; rfl
    · exact e
theorem closeL_free {env : Env} {y : Str} : ∀ {names : List (Str × NameKind)} {acc : List (Str × Addr)}, (∀ p ∈ names, p.2 = .free → (env.cells.lookup p.1).isSome = true) → (y, NameKind.free) ∈ names → (closeL env names acc).lookup y = env.cells.lookup y
  | p :: r, acc, h, hm => by
    unfold closeL
    have hr : ∀ q ∈ r, q.2 = .free → (env.cells.lookup q.1).isSome = true := fun q hq => h q (List.mem_cons_of_mem _ hq)
    rcases List.mem_cons.mp hm with rfl | hm
    · refine closeL_keep hr ?_
      obtain ⟨b, hb⟩ := Option.isSome_iff_exists.mp (h _ List.mem_cons_self rfl)
      simp only at hb
      simp [hb]
    · exact closeL_free hr hm

theorem closeL_dom {env : Env} {y : Str} {a : Addr} : ∀ {names : List (Str × NameKind)} {acc : List (Str × Addr)}, (closeL env names acc).lookup y = some a → (y, NameKind.free) ∈ names ∨ acc.lookup y = some a
  | [], acc, e => .inr e
  | p :: r, acc, e => by
    unfold closeL at e
    rcases closeL_dom e with e | e
    · exact .inl (List.mem_cons_of_mem _ e)
    · split at e
      · rename_i hk
        rw [List.lookup_cons] at e
        cases q : y == p.1 with
        | false => rw [q] at e; exact .inr e
        | true =>
          refine .inl ?_
          rw [eq_of_beq q]
          have : p.2 = .free := by simpa using hk
          rw [← this]
          exact List.mem_cons_self
      · exact .inr e
theorem cellsFrom_append : ∀ (names : List (Str × NameKind)) (n : Nat) (a b : List (Str × Addr)), cellsFrom n names (a ++ b) = cellsFrom n names a ++ b
  | [], _, _, _ => rfl
  | (name, kind) :: r, n, a, b => by
    unfold cellsFrom
    split
    · exact cellsFrom_append r (n + 1) ((name, n) :: a) b
    · exact cellsFrom_append r n a b
theorem cellsFrom_fst : ∀ (names : List (Str × NameKind)) (n m : Nat) (a b : List (Str × Addr)), a.map (·.1) = b.map (·.1) → (cellsFrom n names a).map (·.1) = (cellsFrom m names b).map (·.1)
  | [], _, _, _, _, e => e
  | (name, kind) :: r, n, m, a, b, e => by
    unfold cellsFrom
    split
    · exact cellsFrom_fst r _ _ _ _ (by simp [e])
    · exact cellsFrom_fst r _ _ _ _ e
theorem lookup_none_iff {β : Type} : ∀ {l : List (Str × β)} {y : Str}, l.lookup y = none ↔ y ∉ l.map (·.1)
  | [], y => by simp
  | (k, v) :: r, y => by
    rw [List.lookup_cons]
    cases q : y == k with
    | true => simp [eq_of_beq q]
    | false =>
      have hne : y ≠ k := fun e => by rw [e] at q; simp at q
      simp [lookup_none_iff (l := r), hne]
theorem lookup_append {β : Type} : ∀ (l m : List (Str × β)) (y : Str), (l ++ m).lookup y = (match l.lookup y with | some v => some v | none => m.lookup y)
  | [], m, y => rfl
  | (k, v) :: r, m, y => by
    rw [List.cons_append, List.lookup_cons, List.lookup_cons]
    cases y == k with
    | true => rfl
    | false => exact lookup_append r m y

/-- a comprehension's block -/
def cEnv (scope : Scope) (C : Addr) (env : Env) : Env :=
  { scope := relabel scope env, locals := C, globals := env.globals, cells := cellsFrom (C + 1) scope.names (closeL env scope.names []), qual := env.qual, func := none, code := env.code, frame := env.frame, builtins := env.builtins }
def frOk (scope : Scope) (env : Env) : Bool := scope.names.all fun p => p.2 != .free || ((env.cells.lookup p.1).isSome && env.kindOf p.1 != some .local && ((cellsFrom 0 scope.names []).lookup p.1).isNone)
def inn (scope : Scope) (ρ : Rho) : Rho := ρ.filter fun p => scope.names.lookup p.1 == some .free
theorem inn_lookup {scope : Scope} {y : Str} {d : D} : ∀ {ρ : Rho}, (inn scope ρ).lookup y = some d → ρ.lookup y = some d ∧ scope.names.lookup y = some .free
  | [], e => by cases e
  | (k, v) :: r, e => by
    unfold inn at e
    rw [List.filter_cons] at e
    rw [List.lookup_cons]
    split at e
    · rename_i hk
      rw [List.lookup_cons] at e
      cases q : y == k with
      | true =>
        rw [q] at e
        rw [eq_of_beq q]
        exact ⟨e, by simpa using hk⟩
      | false => rw [q] at e; exact inn_lookup e
    · rename_i hk
      have := inn_lookup (ρ := r) (by unfold inn; exact e)
      cases q : y == k with
      | true => rw [eq_of_beq q] at this; exact absurd (by simp [this.2]) hk
      | false => exact this
theorem relabel_free {scope : Scope} {env : Env} {y : Str} : ∀ {names : List (Str × NameKind)}, names.lookup y = some .free →
    (names.map fun (n, k) => if (k == NameKind.free && env.scope.kind == .function && env.kindOf n == some .cell) then (n, NameKind.cell) else (n, k)).lookup y = some .cell ∨
    (names.map fun (n, k) => if (k == NameKind.free && env.scope.kind == .function && env.kindOf n == some .cell) then (n, NameKind.cell) else (n, k)).lookup y = some .free
  | [], e => by cases e
  | (n, k) :: r, e => by
    rw [List.lookup_cons] at e
    simp only [List.map_cons]
    cases q : y == n with
    | true =>
      rw [q] at e
      cases e
      split
      · left; simp [List.lookup_cons, q]
      · right; simp [List.lookup_cons, q]
    | false =>
      rw [q] at e
      have := relabel_free (scope := scope) (env := env) e
      split <;> simpa [List.lookup_cons, q] using this
theorem mem_of_lookup' {β : Type} : ∀ {l : List (Str × β)} {n : Str} {v : β}, l.lookup n = some v → (n, v) ∈ l
  | (k, v) :: r, n, c, h => by
    rw [List.lookup_cons] at h
    cases hb : n == k with
    | true => rw [hb] at h; cases h; rw [eq_of_beq hb]; exact List.mem_cons_self
    | false => rw [hb] at h; exact List.mem_cons_of_mem _ (mem_of_lookup' h)

section
variable {c : Cx} {A : Around} {env : Env} {ρ : Rho}
theorem frOk_some {scope : Scope} (h : frOk scope env = true) : ∀ p ∈ scope.names, p.2 = .free → (env.cells.lookup p.1).isSome = true ∧ env.kindOf p.1 ≠ some .local ∧ (cellsFrom 0 scope.names []).lookup p.1 = none := by
  intro p hp hk
  have := List.all_eq_true.mp h p hp
  simp only [hk, bne_self_eq_false, Bool.false_or, Bool.and_eq_true, bne_iff_ne, ne_eq, Option.isNone_iff_eq_none] at this
  exact ⟨this.1.1, this.1.2, this.2⟩
theorem comp_env (O : c.Ok) {scope : Scope} {s : Shared} (g : G c s) (hs : Has c env s.heap ρ) (hfr : frOk scope env = true) {o : Obj} (ho : o = { cls := .type "dict", data := .dict #[] }) :
    G c { s with heap := pushCells (s.heap.push o) scope.names } ∧ KK s.heap (pushCells (s.heap.push o) scope.names) ∧ Has c (cEnv scope s.heap.objs.size env) (pushCells (s.heap.push o) scope.names) (inn scope ρ) ∧
      (∀ y a, (y, NameKind.free) ∉ scope.names → (cEnv scope s.heap.objs.size env).cells.lookup y = some a → s.heap.objs.size < a) := by
  subst ho
  have hall := frOk_some hfr
  have hall' : ∀ p ∈ scope.names, p.2 = .free → (env.cells.lookup p.1).isSome = true := fun p hp hk => (hall p hp hk).1
  have keep : ∀ b o, s.heap.get? b = some o → (pushCells (s.heap.push { cls := .type "dict", data := .dict #[] }) scope.names).get? b = some o := fun b o e => pushCells_keeps _ _ b o (Heap.get?_push_of_some _ e)
  have kk : KK s.heap (pushCells (s.heap.push { cls := .type "dict", data := .dict #[] }) scope.names) := KK.full keep
  have ok := cellsFrom_ok scope.names (s.heap.push { cls := .type "dict", data := .dict #[] }) (s.heap.objs.size + 1) [] ⟨fun _ _ hm => (nomatch hm), List.Pairwise.nil⟩ (by rw [Heap.size_push]; exact Nat.le_refl _)
  rw [Heap.size_push] at ok
  have hcells : (cEnv scope s.heap.objs.size env).cells = cellsFrom (s.heap.objs.size + 1) scope.names [] ++ closeL env scope.names [] := cellsFrom_append scope.names _ [] _
  have hlk : ∀ y a, (cEnv scope s.heap.objs.size env).cells.lookup y = some a → ((cellsFrom (s.heap.objs.size + 1) scope.names []).lookup y = some a) ∨ (env.cells.lookup y = some a) := by
    intro y a e
    rw [hcells, lookup_append] at e
    split at e
    · rename_i v hv; cases e; exact .inl hv
    · rcases closeL_sub hall' e with e | e
      · exact .inr e
      · cases e
  have hlt : ∀ y a, (cellsFrom (s.heap.objs.size + 1) scope.names []).lookup y = some a → s.heap.objs.size < a := fun y a e => (ok.empty y a (mem_of_lookup e)).2
  have hnew : ∀ a, s.heap.objs.size < a → c.h₀.get? a = none ∧ ¬ c.av a := by
    intro a ha
    refine ⟨?_, fun h => ?_⟩
    · cases q : c.h₀.get? a with
      | none => rfl
      | some o => obtain ⟨o', ho'⟩ := g.old.there _ _ q; exact absurd (Heap.lt_size ho') (Nat.lt_asymm ha)
    · obtain ⟨o, ho⟩ := g.av a h; exact absurd (Heap.lt_size ho) (Nat.lt_asymm ha)
  refine ⟨g.keep keep rfl rfl, kk, ⟨⟨⟨_, (Heap.Ns.new s.heap (.type "dict")).keeps (pushCells_keeps _ _)⟩, ?_, g.fresh, ?_, g.navs, ?_, ?_⟩, ?_⟩, ?_⟩
  · intro y a e
    rcases hlk y a e with e | e
    · exact ⟨none, (ok.empty y a (mem_of_lookup e)).1⟩
    · obtain ⟨v, hv⟩ := hs.own.cells y a e; exact ⟨v, hv.keeps keep⟩
  · intro y a e
    rcases hlk y a e with e | e
    · exact (hnew a (hlt y a e)).1
    · exact hs.own.oldC y a e
  · intro y a e
    rcases hlk y a e with e | e
    · exact (hnew a (hlt y a e)).2
    · exact hs.own.navC y a e
  · intro y y' a e e'
    rcases hlk y a e with e | e <;> rcases hlk y' a e' with e' | e'
    · exact name_of_addr ok.apart (mem_of_lookup e) (mem_of_lookup e')
    · obtain ⟨v, hv⟩ := hs.own.cells y' a e'; exact absurd hv.lt (Nat.lt_asymm (hlt y a e))
    · obtain ⟨v, hv⟩ := hs.own.cells y a e; exact absurd hv.lt (Nat.lt_asymm (hlt y' a e'))
    · exact hs.own.apart y y' a e e'
  · intro y d e
    obtain ⟨e1, e2⟩ := inn_lookup e
    have hm := mem_of_lookup' e2
    obtain ⟨h1, h2, h3⟩ := hall _ hm rfl
    obtain ⟨v, l, r⟩ := hs.get y d e1
    refine ⟨v, ?_, r.mono kk.kl⟩
    rcases l with ⟨hl, _⟩ | ⟨_, cc, hcc, hv⟩
    · exact absurd hl h2
    · refine .inr ⟨?_, cc, ?_, hv.keeps keep⟩
      · exact relabel_free (scope := scope) e2
      · rw [hcells, lookup_append]
        have hn : (cellsFrom (s.heap.objs.size + 1) scope.names []).lookup y = none := by
          rw [lookup_none_iff] at h3 ⊢
          rw [cellsFrom_fst scope.names (s.heap.objs.size + 1) 0 [] [] rfl]
          exact h3
        rw [hn]
        simp only
        rw [closeL_free hall' hm, hcc]
  · intro y a hy e
    rw [hcells, lookup_append] at e
    split at e
    · rename_i v hv; cases e; exact hlt y _ hv
    · rcases closeL_dom e with e | e
      · exact absurd e hy
      · cases e
theorem new_compEnv {scope : Scope} {s : Shared} {E : Value → Shared → Prop} {Q : Env → Shared → Prop} {cl : List (Str × Addr)} {M : Model}
    (h : Q (newEnv scope s.heap.objs.size env.globals (cellsFrom (s.heap.objs.size + 1) scope.names cl) env.qual none .none (some env) builtinsNs) { s with heap := pushCells (s.heap.push { cls := .type "dict", data := .dict #[] }) scope.names }) :
    wpAny M A (newFunctionEnv scope env.globals cl [] env.qual none .none (some env)) Q E s := by
  simp only [newFunctionEnv, Option.isSome_some, if_true]
  refine wpAny_bind (wpAny_alloc ?_)
  refine wpAny_bind (wpAny_layCells _ (fun name kind cells => by cases hkc : kind == NameKind.cell <;> simp [hkc]) _ _ _ _ ?_)
  rw [show ({ s with heap := s.heap.push { cls := .type "dict", data := .dict #[] } } : Shared).heap.objs.size = s.heap.objs.size + 1 from Heap.size_push ..]
  rw [List.forIn_nil]
  exact wpAny_bind (wpAny_pure (wpAny_pure h))
end
end Mine
end
/-! MComp3 -/
section
open PySem PySem.W PyProof.Rows
set_option linter.unusedVariables false
namespace Mine
/-- one more place to keep apart -/
abbrev Cx.or1 (c : Cx) (a : Addr) : Cx := { c with av := Or1 c.av a }
theorem Cx.Ok.or1 {c : Cx} (O : c.Ok) (a : Addr) : (c.or1 a).Ok := ⟨O.g, O.b, O.nolimit, O.tab, O.nost, O.K, O.bi, O.bm, O.cc79, O.cP75⟩
theorem relabel_cell {env : Env} {y : Str} : ∀ {names : List (Str × NameKind)}, names.lookup y = some .cell →
    (names.map fun (n, k) => if (k == NameKind.free && env.scope.kind == .function && env.kindOf n == some .cell) then (n, NameKind.cell) else (n, k)).lookup y = some .cell
  | [], e => by cases e
  | (n, k) :: r, e => by
    rw [List.lookup_cons] at e
    simp only [List.map_cons]
    cases q : y == n with
    | true =>
      rw [q] at e
      cases e
      simp [List.lookup_cons, q]
    | false =>
      rw [q] at e
      have := relabel_cell (env := env) e
      split <;> simpa [List.lookup_cons, q] using this
theorem kept_cEnv {env : Env} {scope : Scope} {C : Addr} {x : Str} (hx : scope.names.lookup x = some .local ∨ scope.names.lookup x = some .cell) : Kept (cEnv scope C env) x := by
  rcases hx with hx | hx
  · exact .inl (lookup_relabel_local hx)
  · exact .inr ⟨relabel_cell hx, cellsFrom_some _ _ _ (.inl hx)⟩

theorem flat_opt {α : Type} : ∀ l : List α, ((List.range l.length).map fun i => (l[i]?).toList).flatten = l
  | [] => rfl
  | x :: r => by
    rw [List.length_cons, List.range_succ_eq_map, List.map_cons, List.flatten_cons, List.map_map]
    have := flat_opt r
    simp only [List.getElem?_cons_zero, Option.toList, List.singleton_append, List.cons.injEq, true_and]
    exact this
section
variable {c : Cx} {A : Around} {env : Env} {ρ : Rho}
theorem G.or1 {s : Shared} {a : Addr} (g : G c s) (h : ∃ o, s.heap.get? a = some o) : G (c.or1 a) s :=
  ⟨g.old, g.kk, g.os, g.bare, g.tab, fun b hb => hb.elim (g.av b) (by rintro rfl; exact h)⟩
theorem G.un1 {s : Shared} {a : Addr} (g : G (c.or1 a) s) : G c s := ⟨g.old, g.kk, g.os, g.bare, g.tab, fun b hb => g.av b (.inl hb)⟩
theorem Has.or1 {h : Heap} {a : Addr} (hs : Has c env h ρ) (h1 : ∀ items, ¬ h.PlainList a items) (h2 : env.locals ≠ a) (h3 : ∀ y, env.cells.lookup y ≠ some a) : Has (c.or1 a) env h ρ :=
  ⟨⟨hs.own.ns, hs.own.cells, hs.own.old, hs.own.oldC, fun q => q.elim hs.own.nav h2, fun y b e q => q.elim (hs.own.navC y b e) (by rintro rfl; exact h3 y e), hs.own.apart⟩, fun x d e => let ⟨v, l, r⟩ := hs.get x d e; ⟨v, l, r.or1 h1⟩⟩
theorem Has.or1_fresh {h : Heap} {a : Addr} (hs : Has c env h ρ) (e : h.get? a = none) : Has (c.or1 a) env h ρ := by
  refine hs.or1 (not_list_none e) ?_ fun y hy => ?_
  · rintro rfl; obtain ⟨m, o, _, _, ho, _⟩ := hs.own.ns; rw [e] at ho; cases ho
  · obtain ⟨v, o, ho, _⟩ := hs.own.cells y a hy; rw [e] at ho; cases ho
theorem Src.or1 {H H' : Heap} {I a : Addr} {ds : List D} {fp : List Addr} {P : Nat → Value → Prop} {St : Nat → Heap → Prop} (S : Src c H I ds fp P St) (e : H.get? a = none) (k : KK H H') : Src (c.or1 a) H' I ds fp P St := by
  have hne : ∀ b ∈ fp, b ≠ a := fun b hb => by rintro rfl; obtain ⟨o, ho, _⟩ := S.here b hb; rw [e] at ho; cases ho
  refine ⟨S.W, S.kk S.start k, S.old, fun q => q.elim S.nav (hne I S.has), fun b hb => ?_, S.nt, fun i v d hP hd => ((S.data i v d hP hd).or1 (not_list_none e)).mono k.kl, S.nl⟩
  obtain ⟨o, ho, h1, h2, h3⟩ := S.here b hb
  exact ⟨o, k b o (S.nt 0 H b o S.start hb ho) ho, h1, h2, fun q => q.elim h3 (hne b hb)⟩
theorem Src.keep {H H' : Heap} {I : Addr} {ds : List D} {fp : List Addr} {P : Nat → Value → Prop} {St : Nat → Heap → Prop} (S : Src c H I ds fp P St) (k : KK H H') : Src c H' I ds fp P St :=
  ⟨S.W, S.kk S.start k, S.old, S.nav, fun b hb => let ⟨o, ho, h1, h2, h3⟩ := S.here b hb; ⟨o, k b o (S.nt 0 H b o S.start hb ho) ho, h1, h2, h3⟩, S.nt, fun i v d hP hd => (S.data i v d hP hd).mono k.kl, S.nl⟩

/-- a list comprehension -/
theorem comp_run {elt iter : Expr} {x : Str} {px pos p0 : Pos} {rest : List Comprehension} {scope : Scope} {act : Addr → Addr → Addr → Sem Unit} {ds es : List D} {fss : Nat → List D} {N : Str → Prop} {use : Option (Value → Sem Unit)} {s : Shared} {E : Value → Shared → Prop} {Q : Value → Shared → Prop}
    (O : c.Ok) (hA : A.handled = none) (hfr : frOk scope env = true) (hkind : scope.kind = .function) (hnames : ∀ y ∈ scope.names, y.2 = .local → scope.names.lookup y.1 = some .local)
    (hx : scope.names.lookup x = some .local ∨ scope.names.lookup x = some .cell) (hN : N x) (hNf : ∀ y, N y → (y, NameKind.free) ∉ scope.names) (hit : It c A env ρ iter ds)
    (ht : ∀ I D₀ C, compTurn (.ListComp elt (⟨.Name x px, iter, [], 0⟩ :: rest) scope pos) 0 (.ref I) (.ref D₀) (cEnv scope C env) = (standAt iter.pos >>= fun _ => pyNext (.ref I) >>= fun r => match r with
      | none => pure (.done .next)
      | some v => letOwnedTupleGo (.Name x px) (.ref I) v >>= fun _ => assign (.Name x px) (cEnv scope C env) v >>= fun _ => act I D₀ C >>= fun _ => again (.compLoop (.ListComp elt (⟨.Name x px, iter, [], 0⟩ :: rest) scope pos) 0 (.ref I) (.ref D₀) (cEnv scope C env))))
    (ha : ∀ (c' : Cx) I D₀ C, c'.Ok → c'.prog = c.prog → c'.w = c.w → c'.mg = c.mg → c'.mb = c.mb → c'.h₀ = c.h₀ → c'.av D₀ → c'.h₀.get? D₀ = none → ∀ i d, ds[i]? = some d → Act c' N A (cEnv scope C env) D₀ ((x, d) :: inn scope ρ) (act I D₀ C) (fss i))
    (hes : es = ((List.range ds.length).map fss).flatten) (hz : es.length ≤ sizeLine) (g : G c s) (hs : Has c env s.heap ρ)
    (hR : ∀ D₀ C s', G c s' → KK s.heap s'.heap → Rp c.av s'.heap (.ref D₀) (.list es) → (∃ m, s'.heap.Ns C m) → c.h₀.get? C = none → ¬ c.av C → (∀ o, NT o → s.heap.get? C ≠ some o) → (∀ items, ¬ s'.heap.PlainList C items) → compPost (model c.prog c.w) A E use Q (.ref D₀) C (.ok .next) s')
    (hfs : ∀ v, foldedSetIterable iter env v = pure v := by intro _; rfl) :
    wpAny (model c.prog c.w) A (comprehension (.ListComp elt (⟨.Name x px, iter, [], 0⟩ :: rest) scope pos) scope env p0 (newList []) false (eval iter env) use) Q E s := by
  have hcl := closureFor_is (scope := scope) (env := env) fun p hp hk => (frOk_some hfr p hp hk).1
  refine wpAny_comprehension_free (use := use) rfl hfs hcl hkind hnames (hit.run s _ _ g hs fun I s₂ fp P St g₂ k₂ S hfrI => ?_)
  refine wpAny_newObj_type ?_ (by size_fits)
  try dsimp only
  generalize hD : s₂.heap.objs.size = D₀
  have hDn : s₂.heap.get? D₀ = none := by
    cases e : s₂.heap.get? D₀ with
    | none => rfl
    | some o => exact absurd (Heap.lt_size e) (by rw [hD]; exact Nat.lt_irrefl _)
  have kp := KK.push s₂.heap { cls := .type "list", data := .seq ([] : List Value).toArray }
  have hDl : (s₂.heap.push { cls := .type "list", data := .seq ([] : List Value).toArray }).get? D₀ = some { cls := .type "list", data := .seq ([] : List Value).toArray } := by rw [← hD]; exact Heap.get?_push_size _ rfl
  have g₃ : G (c.or1 D₀) { s₂ with heap := s₂.heap.push { cls := .type "list", data := .seq ([] : List Value).toArray } } := (g₂.push (t := s₂.toks)).or1 ⟨_, hDl⟩
  have hs₃ : Has (c.or1 D₀) env (s₂.heap.push { cls := .type "list", data := .seq ([] : List Value).toArray }) ρ := ((hs.mono k₂).or1_fresh hDn).mono kp
  have S₃ := S.or1 hDn kp
  refine new_compEnv ?_
  obtain ⟨g₄, k₄, hs₄, hnew⟩ := comp_env (O.or1 D₀) g₃ hs₃ hfr rfl
  have S₄ := S₃.keep k₄
  dsimp only at g₄ k₄ hs₄ hnew S₄ ⊢
  have hCsz : (s₂.heap.push { cls := .type "list", data := .seq ([] : List Value).toArray }).objs.size = D₀ + 1 := by rw [Heap.size_push, hD]
  rw [hCsz] at hs₄ hnew ⊢
  have hDnC : D₀ ≠ D₀ + 1 := Nat.ne_of_lt (Nat.lt_succ_self _)
  have hl₄ : (pushCells ((s₂.heap.push { cls := .type "list", data := .seq ([] : List Value).toArray }).push { cls := .type "dict", data := .dict #[] }) scope.names).PlainList D₀ #[] :=
    k₄.list ⟨_, hDl⟩
  have hh0 : c.h₀.get? D₀ = none := hD ▸ g₂.fresh
  have loop : codeAny (model c.prog c.w) A (.compLoop (.ListComp elt (⟨.Name x px, iter, [], 0⟩ :: rest) scope pos) 0 (.ref I) (.ref D₀) (cEnv scope (D₀ + 1) env)) (compPost (model c.prog c.w) A E use Q (.ref D₀) (D₀ + 1))
      { s₂ with heap := pushCells ((s₂.heap.push { cls := .type "list", data := .seq ([] : List Value).toArray }).push { cls := .type "dict", data := .dict #[] }) scope.names } := by
    refine comp_loop (c := c.or1 D₀) (done := []) (vs := #[]) (O.or1 D₀) hA ?_ (kept_cEnv hx) hN (.inr rfl) S₄ rfl (ht I D₀ (D₀ + 1)) (ha (c.or1 D₀) I D₀ (D₀ + 1) (O.or1 D₀) rfl rfl rfl rfl rfl (.inr rfl) hh0) (by rw [← hes]; simpa using hz) ?_ g₄ hs₄ hl₄ RpL.nil fun s' vs' g' kf hs' hl' r' => ?_
    · show (relabel scope env).kind = _; exact hkind
    · rw [lookup_none_iff]
      intro hm
      obtain ⟨p, hp, rfl⟩ := List.mem_map.mp hm
      have : scope.names.lookup p.1 = some .free := by simpa using (List.mem_filter.mp hp).2
      rw [this] at hx
      rcases hx with hx | hx <;> cases hx
    have hC0 : ∀ o, NT o → s.heap.get? (D₀ + 1) ≠ some o := fun o n e => by
      have := Heap.lt_size (k₂ _ o n e)
      rw [hD] at this
      exact absurd this (Nat.not_lt.mpr (Nat.le_succ _))
    refine hR D₀ (D₀ + 1) s' g'.un1 ?_ ?_ hs'.own.ns hs'.own.old (fun q => hs'.own.nav (.inl q)) hC0 (fun its => hs'.own.notlist its)
    · intro b o n e
      have e₂ := k₂ b o n e
      have hb : b < D₀ := hD ▸ Heap.lt_size e₂
      refine kf b o n (Nat.ne_of_lt (Nat.lt_succ_of_lt hb)) (fun y hy hq => ?_) ?_ (k₄ b o n (kp b o n e₂))
      · have := hnew y b (hNf y hy) hq
        exact absurd this (Nat.not_lt.mpr (Nat.le_of_lt (Nat.lt_succ_of_lt hb)))
      · rintro (rfl | rfl)
        · exact Nat.lt_irrefl _ hb
        · exact hfrI o n e
    · rw [rp_list]
      refine ⟨D₀, vs', rfl, ?_, hl', ?_⟩
      · intro q
        obtain ⟨o, ho⟩ := g₂.av _ q
        rw [hDn] at ho; cases ho
      · rw [hes]; simpa using r'.weak (Y := c.av) (fun _ => .inl)
  refine compStart_go (g := ⟨.Name x px, iter, [], 0⟩) rfl rfl loop ?_
  exact (S₄.W A hA).self 0 _ _ _ S₄.start loop
/-- a list comprehension of one clause, as an expression -/
theorem ev_ListComp {elt iter : Expr} {x : Str} {px pos : Pos} {scope : Scope} {ds es : List D}
    (O : c.Ok) (hA : A.handled = none) (hfr : frOk scope env = true) (hkind : scope.kind = .function) (hnames : ∀ y ∈ scope.names, y.2 = .local → scope.names.lookup y.1 = some .local)
    (hx : scope.names.lookup x = some .local ∨ scope.names.lookup x = some .cell) (hxf : (x, NameKind.free) ∉ scope.names) (hit : It c A env ρ iter ds) (hlen : es.length = ds.length)
    (ha : ∀ (c' : Cx) C, c'.Ok → c'.prog = c.prog → c'.w = c.w → c'.mg = c.mg → c'.mb = c.mb → c'.h₀ = c.h₀ → ∀ (i : Nat) (d e : D), ds[i]? = some d → es[i]? = some e → Ev c' A (cEnv scope C env) ((x, d) :: inn scope ρ) (eval elt (cEnv scope C env)) e)
    (hz : es.length ≤ sizeLine) (hfs : ∀ v, foldedSetIterable iter env v = pure v := by intro _; rfl) :
    Ev c A env ρ (eval (.ListComp elt [⟨.Name x px, iter, [], 0⟩] scope pos) env) (.list es) := by
  refine ⟨fun s Q E g hs hQ => ?_⟩
  rw [eval_ListComp]
  refine comp_run (N := (· = x)) (fss := fun i => (es[i]?).toList) (act := fun I D₀ C => (eval elt (cEnv scope C env) >>= fun x => call (.builtin "list.append") [.ref D₀, x] >>= fun _ => pure ())) O hA hfr hkind hnames hx rfl (by rintro y rfl; exact hxf) hit
    (fun I D₀ C => compTurn_list1 ..) ?_ ?_ hz g hs ?_ hfs
  · intro c' I D₀ C O' h1 h2 h3 h4 h5 hav hh i d hd
    have hi : i < es.length := by rw [hlen]; exact (List.getElem?_eq_some_iff.mp hd).1
    have he : es[i]? = some es[i] := by simp [hi]
    rw [he]
    exact act_last O' hav hh (ha c' C O' h1 h2 h3 h4 h5 i d _ hd he)
  · rw [← hlen]
    exact (flat_opt es).symm
  · intro D₀ C s' g' k' r' hn hh hav hfr' hnl
    refine ⟨_, hn.choose_spec, fun h' hs' => hQ _ _ (g'.same O hh hs' (.inl hav)) ?_ (r'.mono (KL.same hs' hnl))⟩
    intro b o n e
    exact hs'.extBut b o (by rintro rfl; exact hfr' o n e) (k' b o n e)
/-- «x = [..]» where the compiler exchanges the stores -/
theorem ex_AssignComp {W : Addr → Prop} {elt iter : Expr} {x y : Str} {px py pos spos : Pos} {scope : Scope} {ds es : List D}
    (O : c.Ok) (hA : A.handled = none) (hk : env.scope.kind = .function) (hy : Kept env y) (hsw : swapsWith (.ListComp elt [⟨.Name x px, iter, [], 0⟩] scope pos) (some (.Name y py)) spos.line env = pure true)
    (hfr : frOk scope env = true) (hkind : scope.kind = .function) (hnames : ∀ y ∈ scope.names, y.2 = .local → scope.names.lookup y.1 = some .local)
    (hx : scope.names.lookup x = some .local ∨ scope.names.lookup x = some .cell) (hxf : (x, NameKind.free) ∉ scope.names) (hit : It c A env ρ iter ds) (hlen : es.length = ds.length)
    (ha : ∀ (c' : Cx) C, c'.Ok → c'.prog = c.prog → c'.w = c.w → c'.mg = c.mg → c'.mb = c.mb → c'.h₀ = c.h₀ → ∀ (i : Nat) (d e : D), ds[i]? = some d → es[i]? = some e → Ev c' A (cEnv scope C env) ((x, d) :: inn scope ρ) (eval elt (cEnv scope C env)) e)
    (hz : es.length ≤ sizeLine) (hfs : ∀ v, foldedSetIterable iter env v = pure v := by intro _; rfl) :
    Ex c W A env ρ (exec (.Assign [.Name y py] (.ListComp elt [⟨.Name x px, iter, [], 0⟩] scope pos) spos) env) (.next ((y, .list es) :: ρ)) := by
  refine ⟨fun s Q E g hs hQ => ?_⟩
  rw [exec_Assign_Name_used _ _ _ _ hsw]
  refine wpAny_bind (wpAny_standAt (wpAny_bind ?_))
  show wpAny _ A (do let _ ← comprehension (.ListComp elt [⟨.Name x px, iter, [], 0⟩] scope pos) scope env _ (newList []) false (eval iter env) (some (assign (.Name y py) env))) _ _ s
  refine wpAny_bind (wpAny_mono (comp_run (N := (· = x)) (fss := fun i => (es[i]?).toList) (act := fun I D₀ C => (eval elt (cEnv scope C env) >>= fun x => call (.builtin "list.append") [.ref D₀, x] >>= fun _ => pure ())) O hA hfr hkind hnames hx rfl (by rintro y rfl; exact hxf) hit
    (fun I D₀ C => compTurn_list1 ..) ?_ ?_ hz g hs (Q := fun _ s' => Q .next s') ?_ hfs) (fun _ s' hq => wpAny_pure (wpAny_pure hq)) fun _ _ e => e)
  · intro c' I D₀ C O' h1 h2 h3 h4 h5 hav hh i d hd
    have hi : i < es.length := by rw [hlen]; exact (List.getElem?_eq_some_iff.mp hd).1
    have he : es[i]? = some es[i] := by simp [hi]
    rw [he]
    exact act_last O' hav hh (ha c' C O' h1 h2 h3 h4 h5 i d _ hd he)
  · rw [← hlen]
    exact (flat_opt es).symm
  · intro D₀ C s' g' k' r' hn hh hav hfr' hnl
    obtain ⟨m, hm⟩ := hn
    show wpAny _ A (assign (.Name y py) env (.ref D₀)) _ _ _
    refine wpAny_assign_Name (store_ok O hk g' (hs.mono k') hy r' fun h₂ tk g₂ kf₂ hs₂ _ hsb _ => ?_)
    have hCne : ∀ a, (a = env.locals ∨ ∃ y, env.cells.lookup y = some a) → C ≠ a := by
      rintro a (rfl | ⟨z, hz⟩) rfl
      · obtain ⟨m, o, es, ep, ho, hd, _⟩ := hs.own.ns; exact hfr' o (NT.data (by rw [hd]; nofun)) ho
      · obtain ⟨v, o, ho, hd⟩ := hs.own.cells z _ hz; exact hfr' o (NT.data (by rw [hd]; nofun)) ho
    obtain ⟨a₂, hsb₂, ha₂⟩ := hsb
    refine ⟨m, hm.sameBut hsb₂ (hCne a₂ ha₂), fun h₃ hs₃ => ?_⟩
    have hnl₂ : ∀ items, ¬ h₂.PlainList C items := not_list_ns (hm.sameBut hsb₂ (hCne a₂ ha₂))
    have kl₃ : KL c.av h₂ h₃ := KL.same hs₃ hnl₂
    refine hQ _ _ (G.same O g₂ hh hs₃ (.inl hav)) ?_ ⟨rfl, hs₂.ext hs₃.extBut (hCne _ (.inl rfl)) (fun z hz => hCne _ (.inr ⟨z, hz⟩) rfl) kl₃⟩
    intro b o n h1 h2 h3 e
    exact hs₃.extBut b o (by rintro rfl; exact hfr' o n e) (kf₂ Tr W trivial b o n h1 h2 h3 (k' b o n e))
end
end Mine
end
/-! MFun -/
section
open PySem PySem.W PyProof.Rows
set_option linter.unusedVariables false
namespace Mine

theorem bindL_get {k : Str → Option NameKind} {x : Str} (hx : k x = some .local) : ∀ (binds : List (Str × Value)) (m : Str → Option Value), (binds.map (·.1)).Nodup → bindL k binds m x = (match binds.lookup x with | some v => some v | none => m x)
  | [], m, _ => rfl
  | (n, v) :: r, m, h => by
    simp only [List.map_cons, List.nodup_cons] at h
    unfold bindL
    rw [bindL_get hx r _ h.2, List.lookup_cons]
    cases q : x == n with
    | true =>
      have e := eq_of_beq q
      subst e
      have : r.lookup x = none := lookup_none_iff.mpr h.1
      rw [this]
      simp [hx]
    | false =>
      have hne : x ≠ n := fun e => by rw [e] at q; simp at q
      cases r.lookup x with
      | some u => rfl
      | none => by_cases hk : k n = some .local <;> simp [hk, hne]
theorem bindC_get {k : Str → Option NameKind} {x : Str} (hx : k x ≠ some .local) : ∀ (binds : List (Str × Value)) (m : Str → Option Value), (binds.map (·.1)).Nodup → bindC k binds m x = (match binds.lookup x with | some v => some v | none => m x)
  | [], m, _ => rfl
  | (n, v) :: r, m, h => by
    simp only [List.map_cons, List.nodup_cons] at h
    unfold bindC
    rw [bindC_get hx r _ h.2, List.lookup_cons]
    cases q : x == n with
    | true =>
      have e := eq_of_beq q
      subst e
      have : r.lookup x = none := lookup_none_iff.mpr h.1
      rw [this]
      simp [hx]
    | false =>
      have hne : x ≠ n := fun e => by rw [e] at q; simp at q
      cases r.lookup x with
      | some u => rfl
      | none => by_cases hk : k n = some .local <;> simp [hk, hne]
theorem zip_lookup {h : Heap} {X : Addr → Prop} {x : Str} {d : D} : ∀ {ps : List Str} {vs : List Value} {ds : List D}, RpL X h vs ds → (ps.zip ds).lookup x = some d → ∃ v, (ps.zip vs).lookup x = some v ∧ Rp X h v d
  | [], _, _, _, e => by simp at e
  | p :: ps, _, [], r, e => by simp at e
  | p :: ps, _, d' :: ds, r, e => by
    simp only [RpL] at r
    obtain ⟨v, vs, rfl, r1, r2⟩ := r
    simp only [List.zip_cons_cons, List.lookup_cons] at e ⊢
    cases q : x == p with
    | true => rw [q] at e; cases e; exact ⟨v, rfl, r1⟩
    | false => rw [q] at e; exact zip_lookup r2 e
theorem zip_fst {α β : Type} : ∀ (a : List α) (b : List β), a.length = b.length → (a.zip b).map (·.1) = a
  | [], [], _ => rfl
  | x :: a, y :: b, h => by simp [zip_fst a b (by simpa using h)]
  | [], _ :: _, h => by simp at h
  | _ :: _, [], h => by simp at h
theorem KK.codeRec {h h' : Heap} (k : KK h h') {cd : Value} {q : Str} (x : ∃ c o vs t, cd = .ref c ∧ h.get? c = some o ∧ o.cls ≠ .none ∧ o.data = .fields vs ∧ vs[1]? = some (.str q t)) : h'.CodeRec cd q :=
  let ⟨c, o, vs, t, e1, e2, e3, e4, e5⟩ := x; ⟨c, o, vs, t, e1, k c o (NT.cls e3) e2, e4, e5⟩

section
variable {c : Cx} {A : Around}
/-- a call of a def of the top: its body once -/
theorem fn_call {k : Nat} {f : Addr} {o : Obj} {fd : FuncData} {body : List Stmt} {ps : List Str} {ds : List D} {d : D} (O : c.Ok) (hA : Rm A (k + 1)) (ho : c.h₀.get? f = some o) (hdata : o.data = .func fd) (hbody : fd.body = .stmts body)
    (hcd : ∃ ca co vs t, fd.code = .ref ca ∧ c.h₀.get? ca = some co ∧ co.cls ≠ .none ∧ co.data = .fields vs ∧ vs[1]? = some (.str fd.qualname t))
    (hbind : ∀ vals : List Value, vals.length = ps.length → bindArgs fd ⟨vals, []⟩ = pure (ps.zip vals)) (hclo : fd.closure = []) (hps : ps.Nodup) (hlen : ds.length = ps.length)
    (hkind : (ps.all fun p => fd.scope.names.lookup p == some .local || fd.scope.names.lookup p == some .cell) = true)
    (h : ∀ L, Rm (A.deeper (callEnvC fd L f)) k → Ex c (fun _ => False) (A.deeper (callEnvC fd L f)) (callEnvC fd L f) (ps.zip ds) (execs body (callEnvC fd L f)) (.ret d))
    (hco : fd.scope.isCoroutine = false) (hgen : fd.scope.isGenerator = false) (hk : fd.scope.kind = .function) : Fn c A (.ref f) ds d := by
  refine ⟨fun s vs Q E g r hQ => ?_⟩
  have hvl : vs.length = ps.length := by rw [r.length, hlen]
  have ho' : s.heap.get? f = some o := g.kk f o (NT.data (by rw [hdata]; nofun)) ho
  have hnd : ((ps.zip vs).map (·.1)).Nodup := by rw [zip_fst _ _ hvl.symm]; exact hps
  refine wpAny_call (codeAny_call_cells hA.lim ho' hdata (g.kk.nolimit O.nolimit) (g.kk.codeRec hcd) hbody (hbind vs hvl) hclo ?_ ?_ hco hgen hk)
  · intro x hx
    have hxp : x.1 ∈ ps := by
      have := List.mem_map_of_mem (f := fun y : Str × Value => y.1) hx
      rwa [zip_fst _ _ hvl.symm] at this
    have := List.all_eq_true.mp hkind x.1 hxp
    rcases Bool.or_eq_true_iff.mp this with q | q
    · exact .inl (by simpa using q)
    · have q' : fd.scope.names.lookup x.1 = some .cell := by simpa using q
      exact .inr ⟨q', cellsFrom_some _ _ _ (.inl q')⟩
  · intro s₁ x
    obtain ⟨h₁, tk, hs₁⟩ := x.toInCall.same
    have keep := x.toInCall.keep
    have hL : (callEnvC fd s.heap.objs.size f).locals = s.heap.objs.size := rfl
    have g₁ : G c s₁ := g.keep keep (by rw [hs₁]) (by rw [hs₁])
    have hnew : ∀ a, s.heap.objs.size ≤ a → c.h₀.get? a = none ∧ ¬ c.av a := by
      intro a ha
      refine ⟨?_, fun hh => ?_⟩
      · cases q : c.h₀.get? a with
        | none => rfl
        | some o => obtain ⟨o', ho'⟩ := g.old.there _ _ q; exact absurd (Heap.lt_size ho') (Nat.not_lt.mpr ha)
      · obtain ⟨o, ho⟩ := g.av a hh; exact absurd (Heap.lt_size ho) (Nat.not_lt.mpr ha)
    have hlt : ∀ y a, (callEnvC fd s.heap.objs.size f).cells.lookup y = some a → s.heap.objs.size < a := fun y a e => x.above y a (mem_of_lookup e)
    have own : Own c (callEnvC fd s.heap.objs.size f) s₁.heap :=
      ⟨⟨_, x.toInCall.ns⟩, fun y a e => ⟨_, x.cell y a e⟩, (hnew _ (Nat.le_refl _)).1, fun y a e => (hnew a (Nat.le_of_lt (hlt y a e))).1, (hnew _ (Nat.le_refl _)).2, fun y a e => (hnew a (Nat.le_of_lt (hlt y a e))).2,
        fun y y' a e e' => name_of_addr x.apart (mem_of_lookup e) (mem_of_lookup e')⟩
    have has : Has c (callEnvC fd s.heap.objs.size f) s₁.heap (ps.zip ds) := by
      refine ⟨own, fun y dd e => ?_⟩
      obtain ⟨v, hv, rv⟩ := zip_lookup r e
      refine ⟨v, ?_, rv.mono (KK.full keep).kl⟩
      have hyp : y ∈ ps := by
        have := List.mem_map_of_mem (f := fun z : Str × Value => z.1) (mem_of_lookup' hv)
        rwa [zip_fst _ _ hvl.symm] at this
      have := List.all_eq_true.mp hkind y hyp
      rcases Bool.or_eq_true_iff.mp this with q | q
      · have q' : (callEnvC fd s.heap.objs.size f).kindOf y = some .local := eq_of_beq q
        exact .inl ⟨q', _, x.toInCall.ns, by rw [bindL_get q' _ _ hnd, hv]⟩
      · have q' : (callEnvC fd s.heap.objs.size f).kindOf y = some .cell := eq_of_beq q
        obtain ⟨a, ha⟩ := Option.isSome_iff_exists.mp (cellsFrom_some fd.scope.names (s.heap.objs.size + 1) [] (.inl (by simpa using q)))
        have hcl := x.cell y a ha
        rw [bindC_get (by rw [q']; nofun) _ _ hnd, hv] at hcl
        exact .inr ⟨.inl q', a, ha, hcl⟩
    refine (h _ hA.deeper).run s₁ _ _ g₁ has fun fl s' g' kf hm => ?_
    obtain ⟨v, rfl, rv, _⟩ := hm
    refine hQ v s' g' ?_ rv
    intro b o n e
    have hb := Heap.lt_size e
    exact kf b o n (Nat.ne_of_lt hb) (fun y _ hq => absurd (hlt y b hq) (Nat.lt_asymm hb)) (fun q => q) (keep b o e)
end

def P₀ : Params := { strHash := fun _ => 0, shareClass := fun _ => 0, mergeTok := id, idOf := fun _ => 0, idOfShared := fun _ _ => 0, followText := fun _ => false, idOfImm := fun _ => 0 }
noncomputable def objAt (a : Addr) : Obj := ((hd.heap_39 P₀).lookup a).getD { cls := .none }
noncomputable def fdAt (a : Addr) : FuncData := match (objAt a).data with | .func fd => fd | _ => { name := "", qualname := "", params := ⟨[], [], none, [], [], none, []⟩, body := .stmts [], scope := { kind := .function, names := [], isGenerator := false, isCoroutine := false, more := [] }, globals := 0, closure := [], defaults := .none, kwdefaults := .none }
end Mine
end
/-! MData -/
section
open PySem PySem.W PyProof.Rows
set_option linter.unusedVariables false
namespace Mine

mutual
def toP : D → PyData
  | .none => .none
  | .bool b => .bool b
  | .int i => .int i
  | .flt _ => .none
  | .str s => .str s
  | .list xs => .list (toPs xs)
def toPs : List D → List PyData
  | [] => []
  | d :: ds => toP d :: toPs ds
end
mutual
def noF : D → Bool
  | .flt _ => false
  | .list xs => noFs xs
  | _ => true
def noFs : List D → Bool
  | [] => true
  | d :: ds => noF d && noFs ds
end
mutual
theorem Rp.reads {X : Addr → Prop} {h : Heap} : ∀ {d : D} {v : Value}, noF d = true → Rp X h v d → ∃ as, Reads h v (toP d) as
  | .none, _, _, r => by simp only [Rp] at r; subst r; exact ⟨_, Reads.none⟩
  | .bool b, _, _, r => by simp only [Rp] at r; subst r; exact ⟨_, Reads.bool b⟩
  | .int i, _, _, r => by simp only [Rp] at r; obtain ⟨t, rfl⟩ := r; exact ⟨_, Reads.int i t⟩
  | .flt i, _, n, r => by simp [noF] at n
  | .str i, _, _, r => by simp only [Rp] at r; obtain ⟨t, rfl⟩ := r; exact ⟨_, Reads.str i t⟩
  | .list xs, _, n, r => by
    simp only [Rp] at r
    obtain ⟨a, items, rfl, _, ⟨k, ho⟩, rl⟩ := r
    obtain ⟨as, q⟩ := RpL.reads (by simpa [noF] using n) rl
    exact ⟨_, Reads.list ho rfl rfl q⟩
theorem RpL.reads {X : Addr → Prop} {h : Heap} : ∀ {ds : List D} {vs : List Value}, noFs ds = true → RpL X h vs ds → ∃ as, ReadsAll h vs (toPs ds) as
  | [], _, _, r => by simp only [RpL] at r; subst r; exact ⟨_, ReadsAll.nil⟩
  | d :: ds, _, n, r => by
    simp only [RpL] at r
    obtain ⟨v, vs, rfl, r1, r2⟩ := r
    simp only [noFs, Bool.and_eq_true] at n
    obtain ⟨as, q⟩ := Rp.reads n.1 r1
    obtain ⟨bs, p⟩ := RpL.reads n.2 r2
    exact ⟨_, ReadsAll.cons q p⟩
end

section
variable {c : Cx} {A : Around} {env : Env} {ρ : Rho}
theorem cmp_in {d : D} {xs : List D} (n1 : noF d = true) (n2 : noFs xs = true) (h1 : PyData.canLayAll0 (toPs xs) = true) (h2 : (toP d).canLay0 = true) (hu : A.units + 1 + min (PyData.depthAll (toPs xs)) (toP d).depth < cLine) :
    Op2 c A (compareOp .In) d (.list xs) (.bool ((toPs xs).any fun y => PyData.eqv y (toP d))) := by
  refine ⟨fun s v₁ v₂ Q E g r₁ r₂ hQ => ?_⟩
  obtain ⟨as, q1⟩ := Rp.reads n1 r₁
  obtain ⟨bs, q2⟩ := Rp.reads (d := .list xs) (by simpa [noF] using n2) r₂
  rw [toP] at q2
  exact SeqAt.in_list_reads q2 q1 h1 h2 hu (hQ _ s g (KK.refl _) (rp_bool.mpr rfl))
theorem cmp_notin {d : D} {xs : List D} (n1 : noF d = true) (n2 : noFs xs = true) (h1 : PyData.canLayAll0 (toPs xs) = true) (h2 : (toP d).canLay0 = true) (hu : A.units + 1 + min (PyData.depthAll (toPs xs)) (toP d).depth < cLine) :
    Op2 c A (compareOp .NotIn) d (.list xs) (.bool (!((toPs xs).any fun y => PyData.eqv y (toP d)))) := by
  refine ⟨fun s v₁ v₂ Q E g r₁ r₂ hQ => ?_⟩
  obtain ⟨as, q1⟩ := Rp.reads n1 r₁
  obtain ⟨bs, q2⟩ := Rp.reads (d := .list xs) (by simpa [noF] using n2) r₂
  rw [toP] at q2
  exact SeqAt.notIn_list_reads q2 q1 h1 h2 hu (hQ _ s g (KK.refl _) (rp_bool.mpr rfl))
theorem cmp_ne_data {d e : D} (n1 : noF d = true) (n2 : noF e = true) (h1 : SeqAt.shaped (toP d) = true) (h2 : SeqAt.shaped (toP e) = true) (hu : A.units + 64 < cLine) :
    Op2 c A (compareOp .NotEq) d e (.bool (!PyData.eqv (toP d) (toP e))) := by
  refine ⟨fun s v₁ v₂ Q E g r₁ r₂ hQ => ?_⟩
  obtain ⟨as, q1⟩ := Rp.reads n1 r₁
  obtain ⟨bs, q2⟩ := Rp.reads n2 r₂
  exact ne_dataH q1 q2 h1 h2 hu (hQ _ s g (KK.refl _) (rp_bool.mpr rfl))

-- built-in functions
theorem rpl_one {X : Addr → Prop} {h : Heap} {vs : List Value} {d : D} (r : RpL X h vs [d]) : ∃ v, vs = [v] ∧ Rp X h v d := by
  simp only [RpL] at r
  obtain ⟨v, _, rfl, h1, rfl⟩ := r
  exact ⟨v, rfl, h1⟩
theorem rpl_two {X : Addr → Prop} {h : Heap} {vs : List Value} {d e : D} (r : RpL X h vs [d, e]) : ∃ v w, vs = [v, w] ∧ Rp X h v d ∧ Rp X h w e := by
  simp only [RpL] at r
  obtain ⟨v, _, rfl, h1, w, _, rfl, h2, rfl⟩ := r
  exact ⟨v, w, rfl, h1, h2⟩
theorem fn_len_list {xs : List D} (hz : xs.length < 2 ^ 62) : Fn c A (.builtin "len") [.list xs] (.int xs.length) := by
  refine ⟨fun s vs Q E g r hQ => ?_⟩
  obtain ⟨v, rfl, rv⟩ := rpl_one r
  obtain ⟨a, items, rfl, _, hl, rl⟩ := rp_list.mp rv
  have e := rl.length
  simp only [Array.length_toList] at e
  refine Calls.call_len_list hl.isList (by omega) ?_
  rw [e]
  exact hQ _ _ g.tok (KK.refl _) (rp_int.mpr ⟨_, rfl⟩)
theorem fn_len_str {x : Str} (hz : x.length < 2 ^ 62) : Fn c A (.builtin "len") [.str x] (.int x.length) := by
  refine ⟨fun s vs Q E g r hQ => ?_⟩
  obtain ⟨v, rfl, rv⟩ := rpl_one r
  obtain ⟨t, rfl⟩ := rp_str.mp rv
  exact P.len_str (by omega) (hQ _ _ g.tok (KK.refl _) (rp_int.mpr ⟨_, rfl⟩))
theorem fn_chr {i : Int} (h0 : 0 ≤ i) (h1 : i ≤ 1114111) : Fn c A (.builtin "chr") [.int i] (.str ⟨#[i.toNat]⟩) := by
  refine ⟨fun s vs Q E g r hQ => ?_⟩
  obtain ⟨v, rfl, rv⟩ := rpl_one r
  obtain ⟨t, rfl⟩ := rp_int.mp rv
  exact chr_of_range h0 h1 (hQ _ _ g.tok (KK.refl _) (rp_str.mpr ⟨_, rfl⟩))
theorem ints_of {X : Addr → Prop} {h : Heap} : ∀ {ns : List Int} {vs : List Value}, RpL X h vs (ns.map .int) → ∃ l : List (Int × Tok), vs = l.map (fun p => Value.int p.1 p.2) ∧ l.map (·.1) = ns
  | [], _, r => by simp only [List.map_nil, RpL] at r; exact ⟨[], by simp [r], rfl⟩
  | n :: ns, _, r => by
    simp only [List.map_cons, RpL] at r
    obtain ⟨v, vs, rfl, r1, r2⟩ := r
    obtain ⟨t, rfl⟩ := rp_int.mp r1
    obtain ⟨l, rfl, h2⟩ := ints_of r2
    exact ⟨(n, t) :: l, rfl, by simp [h2]⟩
theorem intsAre_of {X : Addr → Prop} {h : Heap} : ∀ {ns : List Int} {vs : List Value}, RpL X h vs (ns.map .int) → IntsAre vs ns
  | [], _, r => by simp only [List.map_nil, RpL] at r; subst r; exact .nil
  | n :: ns, _, r => by
    simp only [List.map_cons, RpL] at r
    obtain ⟨v, vs, rfl, r1, r2⟩ := r
    obtain ⟨t, rfl⟩ := rp_int.mp r1
    exact .cons n t (intsAre_of r2)
theorem fn_sum_ints {ns : List Int} (hA : A.handled = none) : Fn c A (.builtin "sum") [.list (ns.map .int)] (.int ns.sum) := by
  refine ⟨fun s vs Q E g r hQ => ?_⟩
  obtain ⟨v, rfl, rv⟩ := rpl_one r
  obtain ⟨a, items, rfl, _, hl, rl⟩ := rp_list.mp rv
  obtain ⟨l, e1, e2⟩ := ints_of rl
  have e : items = intItems l.toArray := by
    apply Array.ext'
    rw [e1]
    simp [intItems]
  subst e
  refine sum_intListG hA hl.isList fun h' tk t' hk => ?_
  rw [preSum_eq, List.take_of_length_le (by simp)]
  have e3 : (l.toArray.toList.map fun p => p.1).sum = ns.sum := by simp [e2]
  refine hQ _ _ (g.keepH hk) (KK.full hk) (rp_int.mpr ⟨t', ?_⟩)
  rw [← e2]
  try simp
theorem fn_index {ns : List Int} {k : Int} (hk : k ∈ ns) (hlay : PyData.layable0 (.list (ns.map .int)) = true) : Fn c A (.builtin "list.index") [.list (ns.map .int), .int k] (.int (ns.idxOf k : Nat)) := by
  refine ⟨fun s vs Q E g r hQ => ?_⟩
  obtain ⟨v, w, rfl, rv, rw'⟩ := rpl_two r
  obtain ⟨a, items, rfl, _, hl, rl⟩ := rp_list.mp rv
  obtain ⟨t, rfl⟩ := rp_int.mp rw'
  exact index_list_ints (vs := items.toList) (by simpa using hl.isList) (intsAre_of rl) hlay hk (hQ _ _ g.tok (KK.refl _) (rp_int.mpr ⟨_, rfl⟩))
theorem strs_of {X : Addr → Prop} {h : Heap} : ∀ {ss : List Str} {vs : List Value}, RpL X h vs (ss.map .str) → ∃ l : List (Str × Tok), vs = strValues l ∧ l.map (·.1) = ss
  | [], _, r => by simp only [List.map_nil, RpL] at r; exact ⟨[], by simp [r, strValues], rfl⟩
  | n :: ns, _, r => by
    simp only [List.map_cons, RpL] at r
    obtain ⟨v, vs, rfl, r1, r2⟩ := r
    obtain ⟨t, rfl⟩ := rp_str.mp r1
    obtain ⟨l, rfl, h2⟩ := strs_of r2
    exact ⟨(n, t) :: l, rfl, by simp [h2]⟩
theorem fn_join {x : Str} {ss : List Str} (hok : JoinOk x ss = true) : Fn c A (.builtin "str.join") [.str x, .list (ss.map .str)] (.str (Txt.join x ss)) := by
  refine ⟨fun s vs Q E g r hQ => ?_⟩
  obtain ⟨v, w, rfl, rv, rw'⟩ := rpl_two r
  obtain ⟨a, items, rfl, _, hl, rl⟩ := rp_list.mp rw'
  obtain ⟨t, rfl⟩ := rp_str.mp rv
  obtain ⟨l, e1, e2⟩ := strs_of rl
  have e : items = (strValues l).toArray := by apply Array.ext'; rw [e1]
  subst e
  exact SC.join hl.isList e2 hok fun t' k => hQ _ _ g.tok (KK.refl _) (rp_str.mpr ⟨_, rfl⟩)
end
end Mine
end
/-! MSeam -/
section
open PySem PySem.W PyProof.Rows
set_option linter.unusedVariables false
namespace Mine
theorem callEnv_ok {fd : FuncData} {L f : Addr} (h1 : fd.scope.kind = .function) (h2 : fd.globals = mainGlobals) (h3 : fd.builtins = builtinsNs) : EnvOk (callEnvC fd L f) := ⟨h1, h2, h3⟩
def seamV (b a : Nat) : Int := if a = 10 ∧ b = 13 then 2 else if a = 46 ∧ ¬ (b = 13 ∨ b = 10) then 1 else 0
theorem str1_eq (a b : Nat) : ((⟨#[a]⟩ : Str) == ⟨#[b]⟩) = decide (a = b) := by
  by_cases h : a = b
  · subst h; simp
  · simp only [h, decide_false]
    rw [beq_eq_false_iff_ne]
    intro e
    injection e with e
    simp at e
    exact h e
section
variable {c : Cx} {A : Around}
set_option maxRecDepth 10000 in
theorem fn_seam (O : c.Ok) (hA : Rm A 3) {one other : Str} {a b : Nat} (h0 : other.cps[0]? = some a) (hl : one.cps[one.length - 1]? = some b) (hz : one.length < 2 ^ 60) (hb : b < 1114112) :
    Fn c A (.ref 121) [.str one, .str other] (.int (seamV b a)) := by
  refine fn_call (fd := fdAt 121) (ps := [Str.ofString "one", Str.ofString "other"]) (k := 2) O hA (O.K 121 _ rfl) rfl rfl ⟨120, _, _, _, rfl, O.K 120 _ rfl, nofun, rfl, rfl⟩ ?_ rfl (by decide) rfl rfl ?_ rfl rfl rfl
  · intro vals hv
    match vals, hv with
    | [x, y], _ => rfl
  · intro L hR
    have eone : ∀ p, Ev c (A.deeper (callEnvC (fdAt 121) L 121)) (callEnvC (fdAt 121) L 121) ([Str.ofString "one", Str.ofString "other"].zip [.str one, .str other]) (eval (.Name (Str.ofString "one") p) (callEnvC (fdAt 121) L 121)) (.str one) := fun p => ev_Name rfl rfl rfl rfl
    have eoth : ∀ p, Ev c (A.deeper (callEnvC (fdAt 121) L 121)) (callEnvC (fdAt 121) L 121) ([Str.ofString "one", Str.ofString "other"].zip [.str one, .str other]) (eval (.Name (Str.ofString "other") p) (callEnvC (fdAt 121) L 121)) (.str other) := fun p => ev_Name rfl rfl rfl rfl
    have hlen : one.length ≠ 0 := fun e => by
      have : one.cps.size = 0 := e
      simp [this] at hl
    have hl' : (seqIndex? (-1) one.length).bind (one.cps[·]?) = some b := by
      have : seqIndex? (-1) one.length = some (one.length - 1) := by
        unfold seqIndex?
        have h1 : (0 : Int) ≤ -1 + (one.length : Int) := by omega
        have h2 : (-1 : Int) + (one.length : Int) < one.length := by omega
        have h3 : (-1 + (one.length : Int)).toNat = one.length - 1 := by omega
        simp [h1, h2, h3]
      rw [this]; exact hl
    have h0' : (seqIndex? 0 other.length).bind (other.cps[·]?) = some a := by
      have hlt : 0 < other.length := by
        have := (Array.getElem?_eq_some_iff.mp h0).1
        exact this
      have : seqIndex? 0 other.length = some 0 := by
        unfold seqIndex?
        have h2 : ¬ other.length = 0 := by omega
        simp [h2]
      rw [this]; exact h0
    have elast : ∀ p p1 p2 p3, Ev c (A.deeper (callEnvC (fdAt 121) L 121)) (callEnvC (fdAt 121) L 121) ([Str.ofString "one", Str.ofString "other"].zip [.str one, .str other]) (eval (.Subscript (.Name (Str.ofString "one") p) (.UnaryOp .USub (.Constant (.int 1) 0 p1) p2) p3) (callEnvC (fdAt 121) L 121)) (.str ⟨#[b]⟩) :=
      fun p p1 p2 p3 => ev_sign (eone p) (ev_UnaryOp ev_int op_neg_int) rfl hl'
    have ehead : ∀ p p1 p3, Ev c (A.deeper (callEnvC (fdAt 121) L 121)) (callEnvC (fdAt 121) L 121) ([Str.ofString "one", Str.ofString "other"].zip [.str one, .str other]) (eval (.Subscript (.Name (Str.ofString "other") p) (.Constant (.int 0) 0 p1) p3) (callEnvC (fdAt 121) L 121)) (.str ⟨#[a]⟩) :=
      fun p p1 p3 => ev_sign (eoth p) ev_int rfl h0'
    have ht1 : ((⟨#[a]⟩ : Str) == Str.ofString "\n" && (⟨#[b]⟩ : Str) == Str.ofString "\r") = decide (a = 10 ∧ b = 13) := by
      rw [show Str.ofString "\n" = ⟨#[10]⟩ from by decide +kernel, show Str.ofString "\r" = ⟨#[13]⟩ from by decide +kernel, str1_eq, str1_eq]
      simp
    have ht2 : ((⟨#[a]⟩ : Str) == Str.ofString "." && !((toPs [.str (Str.ofString "\r"), .str (Str.ofString "\n")]).any fun y => PyData.eqv y (toP (.str ⟨#[b]⟩)))) = decide (a = 46 ∧ ¬ (b = 13 ∨ b = 10)) := by
      rw [show Str.ofString "\n" = ⟨#[10]⟩ from by decide +kernel, show Str.ofString "\r" = ⟨#[13]⟩ from by decide +kernel, show Str.ofString "." = ⟨#[46]⟩ from by decide +kernel, str1_eq]
      simp only [toPs, toP, List.any_cons, List.any_nil, PyData.eqv, str1_eq]
      simp
      by_cases h1 : a = 46 <;> by_cases h2 : b = 13 <;> by_cases h3 : b = 10 <;> simp [h1, h2, h3] <;> omega
    have hn : ∀ A' : Around, Rm A' 2 → A'.units + 1 + min (PyData.depthAll (toPs [.str (Str.ofString "\r"), .str (Str.ofString "\n")])) (toP (.str ⟨#[b]⟩)).depth < cLine := fun A' h => by
      have := h.units
      have e : PyData.depth (toP (.str ⟨#[b]⟩)) = 0 := rfl
      rw [e]
      show A'.units + 1 + min _ 0 < 9900
      omega
    have hcl : PyData.canLay0 (toP (.str ⟨#[b]⟩)) = true := by simp [toP, PyData.canLay0, PyData.strOk, hb]
    by_cases c1 : a = 10 ∧ b = 13
    · have : seamV b a = 2 := by unfold seamV; rw [if_pos c1]
      rw [this]
      refine ex_ret (ex_If (tv := true) ((tv_and (tv_Compare (ehead _ _ _) ev_str cmp_eq_str rfl) (fun _ => tv_Compare (elast _ _ _ _) ev_str cmp_eq_str rfl)).cast (ht1.trans (decide_eq_true c1))) (fun _ => ex_ret (ex_Return ev_int)) nofun)
    · refine ex_next (ex_If (tv := false) ((tv_and (tv_Compare (ehead _ _ _) ev_str cmp_eq_str rfl) (fun _ => tv_Compare (elast _ _ _ _) ev_str cmp_eq_str rfl)).cast (ht1.trans (decide_eq_false c1))) nofun (fun _ => ex_nil)) ?_
      by_cases c2 : a = 46 ∧ ¬ (b = 13 ∨ b = 10)
      · have : seamV b a = 1 := by unfold seamV; rw [if_neg c1, if_pos c2]
        rw [this]
        refine ex_ret (ex_If (tv := true) ((tv_and (tv_Compare (ehead _ _ _) ev_str cmp_eq_str rfl) (fun _ => tv_Compare (elast _ _ _ _) (ev_List (evl_cons ev_str (evl_cons ev_str evl_nil))) (cmp_notin rfl rfl (by decide +kernel) hcl (hn _ hR)) rfl)).cast (ht2.trans (decide_eq_true c2))) (fun _ => ex_ret (ex_Return ev_int)) nofun)
      · have : seamV b a = 0 := by unfold seamV; rw [if_neg c1, if_neg c2]
        rw [this]
        refine ex_next (ex_If (tv := false) ((tv_and (tv_Compare (ehead _ _ _) ev_str cmp_eq_str rfl) (fun _ => tv_Compare (elast _ _ _ _) (ev_List (evl_cons ev_str (evl_cons ev_str evl_nil))) (cmp_notin rfl rfl (by decide +kernel) hcl (hn _ hR)) rfl)).cast (ht2.trans (decide_eq_false c2))) nofun (fun _ => ex_nil)) ?_
        exact ex_ret (ex_Return ev_int)
end
end Mine
end
/-! MPiece -/
section
open PySem PySem.W PyProof.Rows
set_option linter.unusedVariables false
namespace Mine
def pieceV (st : Int) (ns : List Int) : Int := (st + (ns.map fun x => x.fmod 1000000).sum).fmod 1000000
abbrev piece1 (v : Int) : Str := ([Str.ofString "\n", Str.ofString ".", Str.ofString "a", ⟨#[(v.fdiv 64).toNat]⟩] : List Str).getD (v.fmod 4).toNat ⟨#[]⟩
abbrev piece2 (v : Int) : Str := ([Str.ofString "", Str.ofString "..", Str.ofString "\r.", Str.ofString "\n"] : List Str).getD ((v.fdiv 4).fmod 4).toNat ⟨#[]⟩
abbrev piece3 (v : Int) : Str := ([Str.ofString "\r", Str.ofString "a", Str.ofString "", Str.ofString "\n"] : List Str).getD ((v.fdiv 16).fmod 4).toNat ⟨#[]⟩
abbrev pieceS (v : Int) : Str := piece1 v ++ piece2 v ++ piece3 v
theorem four_at (ls : List Str) (hl : ls.length = 4) (k : Int) : (ls.map D.str)[(k.fmod 4).toNat]? = some (.str (ls.getD (k.fmod 4).toNat ⟨#[]⟩)) := by
  have h1 := Int.fmod_nonneg_of_pos k (show (0 : Int) < 4 by decide)
  have h2 := Int.fmod_lt_of_pos k (show (0 : Int) < 4 by decide)
  have h3 : (k.fmod 4).toNat < ls.length := by omega
  simp [List.getElem?_map, List.getD_eq_getElem?_getD, h3]
theorem fmod_rng (k : Int) {m : Int} (h : 0 < m) : 0 ≤ k.fmod m ∧ k.fmod m < m := ⟨Int.fmod_nonneg_of_pos k h, Int.fmod_lt_of_pos k h⟩
theorem four4 (a b c d : Str) (k : Int) : ([D.str a, .str b, .str c, .str d] : List D)[(k.fmod 4).toNat]? = some (.str (([a, b, c, d] : List Str).getD (k.fmod 4).toNat ⟨#[]⟩)) := four_at [a, b, c, d] rfl k
theorem getD_all {P : Str → Prop} {ls : List Str} {k : Nat} (h : ∀ s ∈ ls, P s) (h0 : k < ls.length) : P (ls.getD k ⟨#[]⟩) := by
  rw [List.getD_eq_getElem?_getD]
  simp only [List.getElem?_eq_getElem h0, Option.getD_some]
  exact h _ (List.getElem_mem h0)
theorem k4 (k : Int) : (k.fmod 4).toNat < 4 := by
  have := fmod_rng k (m := 4) (by decide); omega
theorem piece1_is (v : Int) (hv : 0 ≤ v ∧ v < 1000000) : ∃ a, piece1 v = ⟨#[a]⟩ ∧ a < 15625 := by
  refine getD_all (P := fun s => ∃ a, s = ⟨#[a]⟩ ∧ a < 15625) ?_ (k4 v)
  have hq : 0 ≤ v.fdiv 64 ∧ v.fdiv 64 ≤ 15624 := by
    rw [Int.fdiv_eq_ediv_of_nonneg _ (by decide)]
    omega
  intro s hs
  simp only [List.mem_cons, List.not_mem_nil, or_false] at hs
  rcases hs with rfl | rfl | rfl | rfl
  · exact ⟨10, by decide +kernel, by decide⟩
  · exact ⟨46, by decide +kernel, by decide⟩
  · exact ⟨97, by decide +kernel, by decide⟩
  · exact ⟨_, rfl, by omega⟩
theorem piece2_is (v : Int) : (piece2 v).length ≤ 2 ∧ ∀ a ∈ (piece2 v).cps.toList, a < 15625 := by
  refine getD_all (P := fun s => s.length ≤ 2 ∧ ∀ a ∈ s.cps.toList, a < 15625) ?_ (k4 _)
  intro s hs
  simp only [List.mem_cons, List.not_mem_nil, or_false] at hs
  rcases hs with rfl | rfl | rfl | rfl <;> decide +kernel
theorem piece3_is (v : Int) : (piece3 v).length ≤ 1 ∧ ∀ a ∈ (piece3 v).cps.toList, a < 15625 := by
  refine getD_all (P := fun s => s.length ≤ 1 ∧ ∀ a ∈ s.cps.toList, a < 15625) ?_ (k4 _)
  intro s hs
  simp only [List.mem_cons, List.not_mem_nil, or_false] at hs
  rcases hs with rfl | rfl | rfl | rfl <;> decide +kernel
/-- what a piece is -/
structure PieceOk (p : Str) : Prop where
  pos : 1 ≤ p.length
  le : p.length ≤ 4
  ch : ∀ a ∈ p.cps.toList, a < 15625
theorem pieceS_ok (v : Int) (hv : 0 ≤ v ∧ v < 1000000) : PieceOk (pieceS v) := by
  obtain ⟨a, e1, ha⟩ := piece1_is v hv
  have h2 := piece2_is v
  have h3 := piece3_is v
  have l1 : (piece1 v).length = 1 := by rw [e1]; rfl
  refine ⟨?_, ?_, ?_⟩
  · show 1 ≤ (piece1 v ++ piece2 v ++ piece3 v).length
    rw [Str.length_append, Str.length_append]; omega
  · show (piece1 v ++ piece2 v ++ piece3 v).length ≤ 4
    rw [Str.length_append, Str.length_append]; omega
  · intro b hb
    have hb' : b ∈ (piece1 v ++ piece2 v ++ piece3 v).cps.toList := hb
    rw [Str.cps_append, Str.cps_append, Array.toList_append, Array.toList_append, List.mem_append, List.mem_append] at hb'
    rcases hb' with (hb' | hb') | hb'
    · rw [e1] at hb'; simp at hb'; omega
    · exact h2.2 b hb'
    · exact h3.2 b hb'
theorem pieceV_rng (st : Int) (ns : List Int) : 0 ≤ pieceV st ns ∧ pieceV st ns < 1000000 := fmod_rng _ (by decide)
section
variable {c : Cx} {A : Around}
/-- a name of the language -/
theorem mb_of (O : c.Ok) {x : Str} {v : Value} (h1 : x ≠ "__name__") (h2 : bootBuiltins x = some v) : c.mb x = some v := (O.bi x h1).trans h2
theorem mg_is (O : c.Ok) {x : Str} {r : Option Value} (h : (match ((hd.heap_39 c.w.params).lookup 3).map (·.data) with | some (.dict es _) => nsFind es x | _ => none) = r) : c.mg x = r := by
  obtain ⟨o, es, ep, ho, hd, _, hf⟩ := O.g
  have h3 := O.K 3 _ rfl
  have ho' : c.h₀.get? 3 = some o := ho
  rw [h3] at ho'
  injection ho' with ho'
  subst ho'
  rw [← hf, ← h]
  injection hd with e1 e2
  subst e1
  rfl
set_option maxRecDepth 10000 in
theorem mg_sum (O : c.Ok) : c.mg "sum" = none := mg_is O rfl
theorem mg_chr (O : c.Ok) : c.mg "chr" = none := mg_is O rfl
set_option maxRecDepth 10000 in
set_option maxHeartbeats 4000000 in
theorem fn_piece (O : c.Ok) (hA : Rm A 3) {st : Int} {ns : List Int} (hz : ns.length ≤ 1000) : Fn c A (.ref 102) [.int st, .list (ns.map .int)] (.str (pieceS (pieceV st ns))) := by
  refine fn_call (fd := fdAt 102) (ps := [Str.ofString "start", Str.ofString "cells"]) (k := 2) O hA (O.K 102 _ rfl) rfl rfl ⟨101, _, _, _, rfl, O.K 101 _ rfl, nofun, rfl, rfl⟩ ?_ rfl (by decide) rfl rfl ?_ rfl rfl rfl
  · intro vals hv
    match vals, hv with
    | [x, y], _ => rfl
  · intro L hR
    have ok : EnvOk (callEnvC (fdAt 102) L 102) := callEnv_ok rfl rfl rfl
    have hsl : sizeLine = 2 ^ 24 := rfl
    refine ex_next (ex_Assign (d := .int (pieceV st ns)) O rfl (.inl rfl) (ev_BinOp (ev_BinOp (ev_Name rfl rfl rfl rfl) (ev_callB O ok rfl rfl (.inr ⟨mg_sum O, mb_of O (by decide) rfl⟩) (evl_cons (ev_ListComp (ds := ns.map .int) (es := (ns.map fun x => x.fmod 1000000).map .int) O hR.hd rfl rfl (by decide +kernel) (.inl rfl) (by decide +kernel) (it_list (ev_Name rfl rfl rfl rfl)) (by simp) ?_ (by simp; omega)) evl_nil) (fn_sum_ints hR.hd)) op_add_int) ev_int (op_mod_int (by decide))) rfl) ?_
    · intro c' C O' _ _ _ _ _ i d e hd he
      rw [List.getElem?_map] at hd he
      rw [List.getElem?_map] at he
      cases q : ns[i]? with
      | none => rw [q] at hd; cases hd
      | some n =>
        rw [q] at hd he
        cases hd; cases he
        exact ev_BinOp (ev_Name rfl rfl rfl rfl) ev_int (op_mod_int (by decide))
    generalize hv : pieceV st ns = v
    have hvr : 0 ≤ v ∧ v < 1000000 := hv ▸ fmod_rng _ (by decide)
    have hq : 0 ≤ v.fdiv 64 ∧ v.fdiv 64 ≤ 15624 := by
      rw [Int.fdiv_eq_ediv_of_nonneg _ (by decide)]
      omega
    refine ex_next (ex_Assign O rfl (.inl rfl) (ev_item (ev_List (evl_cons ev_str (evl_cons ev_str (evl_cons ev_str (evl_cons (ev_callB O ok rfl rfl (.inr ⟨mg_chr O, mb_of O (by decide) rfl⟩) (evl_cons (ev_BinOp (ev_Name rfl rfl rfl rfl) ev_int (op_fdiv_int (by decide) rfl)) evl_nil) (fn_chr hq.1 (by omega))) evl_nil))))) (ev_BinOp (ev_Name rfl rfl rfl rfl) ev_int (op_mod_int (by decide))) (fmod_rng v (by decide)).1 (by have := (fmod_rng v (m := 4) (by decide)).2; omega) (four4 _ _ _ _ _)) rfl) ?_
    refine ex_next (ex_Assign O rfl (.inl rfl) (ev_item (ev_List (evl_cons ev_str (evl_cons ev_str (evl_cons ev_str (evl_cons ev_str evl_nil))))) (ev_BinOp (ev_BinOp (ev_Name rfl rfl rfl rfl) ev_int (op_fdiv_int (by decide) rfl)) ev_int (op_mod_int (by decide))) (fmod_rng _ (by decide)).1 (by have := (fmod_rng (v.fdiv 4) (m := 4) (by decide)).2; omega) (four4 _ _ _ _ _)) rfl) ?_
    refine ex_next (ex_Assign O rfl (.inl rfl) (ev_item (ev_List (evl_cons ev_str (evl_cons ev_str (evl_cons ev_str (evl_cons ev_str evl_nil))))) (ev_BinOp (ev_BinOp (ev_Name rfl rfl rfl rfl) ev_int (op_fdiv_int (by decide) rfl)) ev_int (op_mod_int (by decide))) (fmod_rng _ (by decide)).1 (by have := (fmod_rng (v.fdiv 16) (m := 4) (by decide)).2; omega) (four4 _ _ _ _ _)) rfl) ?_
    have l1 : (piece1 v).length = 1 := by obtain ⟨a, e, _⟩ := piece1_is v hvr; rw [e]; rfl
    have l2 := (piece2_is v).1
    have l3 := (piece3_is v).1
    refine ex_ret (ex_Return (ev_BinOp (ev_BinOp (ev_Name rfl rfl rfl rfl) (ev_Name rfl rfl rfl rfl) (op_add_str ?_)) (ev_Name rfl rfl rfl rfl) (op_add_str ?_)))
    · show (piece1 v).length + (piece2 v).length ≤ sizeLine
      omega
    · show (piece1 v ++ piece2 v).length + (piece3 v).length ≤ sizeLine
      rw [Str.length_append]; omega
end
end Mine
end
/-! MOpen -/
section
open PySem PySem.W PyProof.Rows
set_option linter.unusedVariables false
namespace Mine
/-- a list that is being written: its name, its place, its data -/
structure OL (c : Cx) (env : Env) (h : Heap) (out : Str) (a : Addr) (xs : List D) : Prop where
  look : Look env h out (.ref a)
  list : ∃ vs, h.PlainList a vs ∧ RpL c.av h vs.toList xs
structure ExO (c : Cx) (A : Around) (env : Env) (out : Str) (a : Addr) (ρ : Rho) (xs : List D) (t : Sem Flow) (ρ' : Rho) (xs' : List D) : Prop where
  run : ∀ (s : Shared) (Q : Flow → Shared → Prop) (E : Value → Shared → Prop), G c s → Has c env s.heap ρ → OL c env s.heap out a xs →
    (∀ s', G c s' → KF env Tr (· = a) s.heap s'.heap → Has c env s'.heap ρ' → OL c env s'.heap out a xs' → Q .next s') → wpAny (model c.prog c.w) A t Q E s
structure ExQ (c : Cx) (A : Around) (env : Env) (out : Str) (a : Addr) (ρ : Rho) (xs : List D) (t : Sem Flow) (oc : Oc) : Prop where
  run : ∀ (s : Shared) (Q : Flow → Shared → Prop) (E : Value → Shared → Prop), G (c.or1 a) s → Has (c.or1 a) env s.heap ρ → OL (c.or1 a) env s.heap out a xs →
    (∀ fl s', G c s' → KF env Tr (· = a) s.heap s'.heap → Meets' c env s'.heap fl oc → Q fl s') → wpAny (model c.prog c.w) A t Q E s
section
variable {c : Cx} {A : Around} {env : Env} {ρ : Rho} {out : Str} {a : Addr} {xs : List D}
theorem OL.kk {h h' : Heap} (o : OL c env h out a xs) (k : KK h h') : OL c env h' out a xs := ⟨o.look.mono k, let ⟨vs, h1, h2⟩ := o.list; ⟨vs, k.list h1, h2.mono k.kl⟩⟩
theorem exq_next {st : Stmt} {rest : List Stmt} {ρ' : Rho} {xs' : List D} {oc : Oc} (h : ExO (c.or1 a) A env out a ρ xs (exec st env) ρ' xs') (h' : ExQ c A env out a ρ' xs' (execs rest env) oc) : ExQ c A env out a ρ xs (execs (st :: rest) env) oc := by
  refine ⟨fun s Q E g hs ol hQ => ?_⟩
  refine wpAny_execs_cons (h.run s _ _ g hs ol fun s₁ g₁ k₁ hs₁ ol₁ => ?_)
  exact h'.run s₁ _ _ g₁ hs₁ ol₁ fun fl s₂ g₂ k₂ m₂ => hQ fl s₂ g₂ (k₁.trans k₂) m₂
theorem exq_close {W : Addr → Prop} {t : Sem Flow} {oc : Oc} (ha : ¬ c.av a) (h : Ex c (fun _ => False) A env ((out, .list xs) :: ρ) t oc) : ExQ c A env out a ρ xs t oc := by
  refine ⟨fun s Q E g hs ol hQ => ?_⟩
  obtain ⟨vs, hl, r⟩ := ol.list
  have own : Own c env s.heap := ⟨hs.own.ns, hs.own.cells, hs.own.old, hs.own.oldC, fun q => hs.own.nav (.inl q), fun y b e q => hs.own.navC y b e (.inl q), hs.own.apart⟩
  refine h.run s _ _ g.un1 ⟨own, fun y d e => ?_⟩ fun fl s' g' kf hm => hQ fl s' g' (fun b o n h1 h2 _ e => kf b o n h1 h2 (fun q => q) e) hm
  rw [List.lookup_cons] at e
  cases q : y == out with
  | true =>
    rw [q] at e; cases e
    rw [eq_of_beq q]
    exact ⟨_, ol.look, rp_list.mpr ⟨a, vs, rfl, ha, hl, r.weak fun _ => .inl⟩⟩
  | false =>
    rw [q] at e
    obtain ⟨v, l, rv⟩ := hs.get y d e
    exact ⟨v, l, rv.un1⟩
theorem ex_open {W : Addr → Prop} {px pos p0 : Pos} {rest : List Stmt} {oc : Oc} (O : c.Ok) (hk : env.scope.kind = .function) (hx : Kept env out) (hρ : ρ.lookup out = none)
    (h : ∀ a, ¬ c.av a → c.h₀.get? a = none → ExQ c A env out a ρ [] (execs rest env) oc) : Ex c W A env ρ (execs (.Assign [.Name out px] (.List [] p0) pos :: rest) env) oc := by
  refine ⟨fun s Q E g hs hQ => ?_⟩
  refine wpAny_execs_cons (wpAny_Assign_Name (wpAny_List (Calls.spliced_nil ⟨Nat.zero_le _, ?_⟩)) rfl)
  have hn : s.heap.get? s.heap.objs.size = none := by
    cases e : s.heap.get? s.heap.objs.size with
    | none => rfl
    | some o => exact absurd (Heap.lt_size e) (Nat.lt_irrefl _)
  generalize ha : s.heap.objs.size = a at hn ⊢
  have hal : (s.heap.push { cls := .type "list", data := .seq ([] : List Value).toArray }).get? a = some { cls := .type "list", data := .seq ([] : List Value).toArray } := by rw [← ha]; exact Heap.get?_push_size _ rfl
  have g₁ : G (c.or1 a) { s with heap := s.heap.push { cls := .type "list", data := .seq ([] : List Value).toArray } } := (g.push (t := s.toks)).or1 ⟨_, hal⟩
  have hs₁ : Has (c.or1 a) env (s.heap.push { cls := .type "list", data := .seq ([] : List Value).toArray }) ρ := (hs.or1_fresh hn).mono (KK.push _ _)
  have hnav : ¬ c.av a := ha ▸ g.navs
  -- the store of the new list's place: any datum will do
  have key : ∀ (Q' : Unit → Shared → Prop), (∀ h' tk, G (c.or1 a) { s with heap := h', toks := tk } → (∀ W, KF env Tr W (s.heap.push { cls := .type "list", data := .seq ([] : List Value).toArray }) h') → Has (c.or1 a) env h' ρ → Look env h' out (.ref a) → h'.PlainList a #[] → Q' () { s with heap := h', toks := tk }) →
      wpAny (model c.prog c.w) A (storeName env out (.ref a)) Q' E { s with heap := s.heap.push { cls := .type "list", data := .seq ([] : List Value).toArray } } := by
    intro Q' hQ'
    have hpl : (s.heap.push { cls := .type "list", data := .seq ([] : List Value).toArray }).PlainList a #[] := ⟨_, hal⟩
    have hs₀ : Has c env (s.heap.push { cls := .type "list", data := .seq ([] : List Value).toArray }) ρ := hs.mono (KK.push _ _)
    have rp : Rp c.av (s.heap.push { cls := .type "list", data := .seq ([] : List Value).toArray }) (.ref a) (.list []) := rp_list.mpr ⟨a, #[], rfl, hnav, hpl, RpL.nil⟩
    refine store_ok O hk (s := { s with heap := s.heap.push { cls := .type "list", data := .seq ([] : List Value).toArray } }) (g₁.un1) hs₀ hx rp fun h' tk g' kf hs' lx hsb lk => ?_
    obtain ⟨b, hsb, hb⟩ := hsb
    have hab : a ≠ b := by
      rcases hb with rfl | ⟨y, hy⟩
      · exact (list_ne_own hs₀.own hpl).1
      · rintro rfl; exact (list_ne_own hs₀.own hpl).2 y hy
    have hpl' := hpl.extBut hsb.extBut hab
    have own := hs'.own
    refine hQ' h' tk (g'.or1 (let ⟨n, e⟩ := hpl'; ⟨_, e⟩)) (fun W => kf Tr W trivial) ?_ lx hpl'
    have kl : KL (Or1 c.av a) (s.heap.push { cls := .type "list", data := .seq ([] : List Value).toArray }) h' := (kf Tr (fun _ => False) trivial).kl hs₀.own (fun _ => False.elim)
    refine ⟨⟨own.ns, own.cells, own.old, own.oldC, fun q => q.elim own.nav (by rintro rfl; exact (list_ne_own own hpl').1 rfl), fun y d e q => q.elim (own.navC y d e) (by rintro rfl; exact (list_ne_own own hpl').2 y e), own.apart⟩, fun y d e => ?_⟩
    obtain ⟨v, l, rv⟩ := hs₁.get y d e
    exact ⟨v, lk y v (by rintro rfl; rw [hρ] at e; cases e) l, rv.mono kl⟩
  refine key _ fun h' tk g' kf hs' lx hpl' => ?_
  refine (h a hnav (ha ▸ g.fresh)).run _ _ _ g' hs' ⟨lx, #[], hpl', RpL.nil⟩ fun fl s'' g'' kf'' hm => hQ fl s'' g'' ?_ hm
  intro b o n h1 h2 h3 e
  have hb : b ≠ a := by rintro rfl; rw [hn] at e; cases e
  exact kf'' b o n h1 h2 hb (kf W b o n h1 h2 h3 (Heap.get?_push_of_some _ e))

theorem OL.same {h h' : Heap} {b : Addr} (ol : OL c env h out a xs) (hs : Heap.ExtBut b h h') (hb : b ≠ a) (kl : KL c.av h h') (lk : Look env h out (.ref a) → Look env h' out (.ref a)) : OL c env h' out a xs :=
  ⟨lk ol.look, let ⟨vs, h1, h2⟩ := ol.list; ⟨vs, h1.extBut hs (Ne.symm hb), h2.mono kl⟩⟩
theorem exo_nil : ExO c A env out a ρ xs (execs [] env) ρ xs := ⟨fun s Q E g hs ol hQ => wpAny_execs_nil (hQ s g (KF.refl _) hs ol)⟩
theorem exo_cons {st : Stmt} {rest : List Stmt} {ρ₁ ρ₂ : Rho} {xs₁ xs₂ : List D} (h : ExO c A env out a ρ xs (exec st env) ρ₁ xs₁) (h' : ExO c A env out a ρ₁ xs₁ (execs rest env) ρ₂ xs₂) : ExO c A env out a ρ xs (execs (st :: rest) env) ρ₂ xs₂ := by
  refine ⟨fun s Q E g hs ol hQ => ?_⟩
  refine wpAny_execs_cons (h.run s _ _ g hs ol fun s₁ g₁ k₁ hs₁ ol₁ => ?_)
  exact h'.run s₁ _ _ g₁ hs₁ ol₁ fun s₂ g₂ k₂ hs₂ ol₂ => hQ s₂ g₂ (k₁.trans k₂) hs₂ ol₂
theorem exo_If {t : Expr} {b o : List Stmt} {pos : Pos} {tv : Bool} {ρ' : Rho} {xs' : List D} (ht : Tv c A env ρ (isTrue t env (eval t env)) tv) (h₁ : tv = true → ExO c A env out a ρ xs (execs b env) ρ' xs') (h₂ : tv = false → ExO c A env out a ρ xs (execs o env) ρ' xs') :
    ExO c A env out a ρ xs (exec (.If t b o pos) env) ρ' xs' := by
  refine ⟨fun s Q E g hs ol hQ => ?_⟩
  refine wpAny_If (ht.run s _ _ g hs fun s₁ g₁ k₁ => ?_)
  cases tv with
  | true => exact (h₁ rfl).run s₁ _ _ g₁ (hs.mono k₁) (ol.kk k₁) fun s₂ g₂ k₂ hs₂ ol₂ => hQ s₂ g₂ (k₁.kf.trans k₂) hs₂ ol₂
  | false => exact (h₂ rfl).run s₁ _ _ g₁ (hs.mono k₁) (ol.kk k₁) fun s₂ g₂ k₂ hs₂ ol₂ => hQ s₂ g₂ (k₁.kf.trans k₂) hs₂ ol₂
theorem exo_Assign {x : Str} {px pos : Pos} {e : Expr} {d : D} (O : c.Ok) (hk : env.scope.kind = .function) (hx : Kept env x) (hne : out ≠ x) (h : Ev c A env ρ (eval e env) d) (hsw : swapsWith e (some (.Name x px)) pos.line env = pure false) :
    ExO c A env out a ρ xs (exec (.Assign [.Name x px] e pos) env) ((x, d) :: ρ) xs := by
  refine ⟨fun s Q E g hs ol hQ => ?_⟩
  refine wpAny_Assign_Name (h.run s _ _ g hs fun v s₁ g₁ k₁ r₁ => store_ok O hk g₁ (hs.mono k₁) hx r₁ fun h' tk g' kf hs' _ hsb lk => ?_) hsw
  obtain ⟨b, hsb, hb⟩ := hsb
  have ol₁ := ol.kk k₁
  obtain ⟨vs, hl, _⟩ := id ol₁.list
  have hba : b ≠ a := by
    rcases hb with rfl | ⟨y, hy⟩
    · exact Ne.symm (list_ne_own (hs.mono k₁).own hl).1
    · rintro rfl; exact (list_ne_own (hs.mono k₁).own hl).2 y hy
  exact hQ _ g' (k₁.kf.trans (kf Tr _ trivial)) hs' (ol₁.same hsb.extBut hba ((kf Tr (fun _ => False) trivial).kl (hs.mono k₁).own (fun _ => False.elim)) (lk out _ hne))
theorem exo_append {px apos pos spos : Pos} {e : Expr} {d : D} (O : c.Ok) (hk : env.scope.kind = .function) (hav : c.av a) (ha0 : c.h₀.get? a = none) (h : Ev c A env ρ (eval e env) d) (hz : xs.length < sizeLine)
    (hd : (out == ("__debug__" : Str)) = false) (hn : (out == ("__classdict__" : Str)) = false) (hl : (apos.endLine == pos.line) = true) (he : notStar e = true)
    (hi : interactive env = false) (hsw : swapsWith (.Call (.Attribute (.Name out px) (Str.ofString "append") apos) [e] [] pos) none spos.line env = pure false) :
    ExO c A env out a ρ xs (exec (.Expr (.Call (.Attribute (.Name out px) (Str.ofString "append") apos) [e] [] pos) spos) env) ρ (xs ++ [d]) := by
  refine ⟨fun s Q E g hs ol hQ => ?_⟩
  refine wpAny_Expr_any (wpAny_Call_append rfl ?_ hl ?_ ?_) hi hsw
  · rw [star_cons he]; rfl
  · rw [star_cons he]; rfl
  refine wpAny_Name ?_ hd
  have fin : (fun (ov : Value) (s₁ : Shared) => ∃ D its, ov = Value.ref D ∧ PlainL s₁.heap D its ∧ wpAny (model c.prog c.w) A (eval e env) (fun y s₂ => wpAny (model c.prog c.w) A (call (.builtin "list.append") [.ref D, y]) (fun _ => Q .next) E s₂) E s₁) (.ref a) s := by
    obtain ⟨vs, hpl, r⟩ := ol.list
    refine ⟨a, vs, rfl, ?_, ?_⟩
    · obtain ⟨n, hh⟩ := hpl; exact ⟨_, n, hh, rfl, rfl, rfl⟩
    refine h.run s _ _ g hs fun v s₁ g₁ k₁ r₁ => ?_
    have hlen := r.length
    simp only [Array.length_toList] at hlen
    refine wpAny_list_append_plain (k₁.list hpl) (fun h' hl' hs' => ?_) (by omega)
    have hs₁ := hs.mono k₁
    have ne := list_ne_own hs₁.own (k₁.list hpl)
    have kl : KL c.av s₁.heap h' := KL.avoid hs' hav
    refine hQ _ (g₁.same O ha0 hs' (.inr (let ⟨n, e⟩ := hl'; ⟨_, e⟩))) (k₁.kf.trans fun b o n h1 h2 h3 e => hs'.extBut b o h3 e) (hs₁.ext hs'.extBut ne.1 ne.2 kl) ⟨(ol.look.mono k₁).ext hs'.extBut ne.1 ne.2, _, hl', ?_⟩
    have := ((r.mono k₁.kl).append (RpL.one r₁)).mono kl
    simpa using this
  rcases ol.look with ⟨hl, m, hm, hv⟩ | ⟨hl | hl, c', hc, hv⟩
  · exact wpAny_loadName_local hk hl hm hv fin
  · exact wpAny_loadName_cell hk hl hc hv fin
  · exact wpAny_loadName_free hk hl hc hv fin hn
theorem Look.ne {h h' : Heap} {b : Addr} {x : Str} {v : Value} (l : Look env h x v) (hs : Heap.ExtBut b h h') (h1 : b ≠ env.locals) (h2 : ∀ y, env.cells.lookup y ≠ some b) : Look env h' x v := l.ext hs h1 h2
theorem exo_For {x : Str} {px pos : Pos} {iter : Expr} {body : List Stmt} {ds : List D} (ρs : Nat → Rho) (xss : Nat → List D) (O : c.Ok) (hA : A.handled = none) (hk : env.scope.kind = .function) (hx : Kept env x) (hne : out ≠ x) (hav : c.av a)
    (hit : It c A env ρ iter ds) (h0 : ∀ y d, (ρs 0).lookup y = some d → ρ.lookup y = some d) (hx0 : xss 0 = xs)
    (hb : ∀ i d, ds[i]? = some d → ExO c A env out a ((x, d) :: ρs i) (xss i) (execs body env) (ρs (i + 1)) (xss (i + 1)))
    (hfs : ∀ v, foldedSetIterable iter env v = pure v := by intro _; rfl) :
    ExO c A env out a ρ xs (exec (.For (.Name x px) iter body [] pos) env) (ρs ds.length) (xss ds.length) := by
  refine ⟨fun s Q E g hs ol hQ => ?_⟩
  refine wpAny_For (hit.run s _ _ g hs fun I s₁ fp P St g₁ k₁ S hfr => ?_) hfs
  have w₁ := hs.own.kk k₁
  have hI := S.apart w₁ S.has
  have hW : ∀ b, b = a → c.av b := by rintro b rfl; exact hav
  have hIa : I ≠ a := by rintro rfl; exact S.nav hav
  refine codeAny_forLoop (fun n s' => ∃ i, i ≤ ds.length ∧ n = ds.length - i ∧ G c s' ∧ KF env Tr (fun b => b = a ∨ b = I) s₁.heap s'.heap ∧ St i s'.heap ∧ Has c env s'.heap (ρs i) ∧ KL c.av s₁.heap s'.heap ∧ OL c env s'.heap out a (xss i)) ?_ ds.length
    ⟨0, Nat.zero_le _, rfl, g₁, KF.refl _, S.start, ⟨w₁, fun y d e => (hs.mono k₁).get y d (h0 y d e)⟩, KL.refl _, hx0 ▸ ol.kk k₁⟩ (fun _ => rfl)
  rintro n s' ⟨i, hi, rfl, g', kf, st, hs', kl, ol'⟩
  by_cases hlt : i < ds.length
  · obtain ⟨d, hd⟩ : ∃ d, ds[i]? = some d := ⟨ds[i], by simp [hlt]⟩
    refine (S.W A hA).item i s' _ _ hlt st fun v h' tk hP st' hk' => ?_
    have he : Heap.ExtBut I s'.heap h' := fun b o hb e => hk' b o (by simpa using hb) e
    have kl1 : KL c.av s'.heap h' := KL.ext he (fun its => S.nl i _ its st)
    have g2 : G c { s' with heap := h', toks := tk } := g'.ext O S.old he S.nav
    have hs2 : Has c env h' (ρs i) := hs'.ext he hI.1 hI.2 kl1
    have ol2 : OL c env h' out a (xss i) := ol'.same he hIa kl1 (fun l => l.ext he hI.1 hI.2)
    have r2 : Rp c.av h' v d := ((S.data i v d hP hd).mono kl).mono kl1
    refine wpAny_assign_Name (store_ok O hk (s := { s' with heap := h', toks := tk }) g2 hs2 hx r2 fun h3 tk3 g3 kf3 hs3 _ hsb lk => ?_)
    have kl3 : KL c.av h' h3 := (kf3 Tr (fun _ => False) trivial).kl hs2.own (fun _ => False.elim)
    obtain ⟨b3, hsb3, hb3⟩ := hsb
    obtain ⟨vs, hl, _⟩ := id ol2.list
    have hba : b3 ≠ a := by
      rcases hb3 with rfl | ⟨y, hy⟩
      · exact Ne.symm (list_ne_own hs2.own hl).1
      · rintro rfl; exact (list_ne_own hs2.own hl).2 y hy
    have ol3 := ol2.same hsb3.extBut hba kl3 (lk out _ hne)
    refine (hb i d hd).run _ _ _ g3 hs3 ol3 fun s4 g4 kf4 hs4 ol4 => ?_
    refine ⟨ds.length - (i + 1), by omega, i + 1, by omega, rfl, g4, ?_, ?_, hs4, ?_, ol4⟩
    · refine kf.trans (KF.trans (b := h') (fun b o n h1 h2 h3 e => he b o (fun q => h3 (.inr q)) e) (KF.trans (kf3 Tr _ trivial) ?_))
      exact fun b o n h1 h2 h3 e => kf4 b o n h1 h2 (fun q => h3 (.inl q)) e
    · exact S.kf w₁ hW (S.kf w₁ hW st' (kf3 Tr (· = a) trivial)) kf4
    · exact kl.trans (kl1.trans (kl3.trans (kf4.kl hs3.own hW)))
  · have hi' : i = ds.length := by omega
    subst hi'
    refine (S.W A hA).done s' _ _ st fun h' tk hk' => ?_
    have he : Heap.ExtBut I s'.heap h' := fun b o hb e => hk' b o (by simpa using hb) e
    have kl1 : KL c.av s'.heap h' := KL.ext he (fun its => S.nl _ _ its st)
    refine wpAny_execs_nil (hQ _ (g'.ext O S.old he S.nav) ?_ (hs'.ext he hI.1 hI.2 kl1) (ol'.same he hIa kl1 (fun l => l.ext he hI.1 hI.2)))
    intro b o n h1 h2 h3 e
    have hbI : b ≠ I := by rintro rfl; exact hfr o n e
    exact he b o hbI (kf b o n h1 h2 (fun q => q.elim h3 hbI) (k₁ b o n e))
theorem ExO.weak {t : Sem Flow} {ρ₀ ρ' ρ'' : Rho} {xs' : List D} (h : ExO c A env out a ρ xs t ρ' xs') (k₀ : ∀ x d, ρ.lookup x = some d → ρ₀.lookup x = some d) (k : ∀ x d, ρ''.lookup x = some d → ρ'.lookup x = some d) : ExO c A env out a ρ₀ xs t ρ'' xs' :=
  ⟨fun s Q E g hs ol hQ => h.run s _ _ g ⟨hs.own, fun x d e => hs.get x d (k₀ x d e)⟩ ol fun s' g' kf hs' ol' => hQ s' g' kf ⟨hs'.own, fun x d e => hs'.get x d (k x d e)⟩ ol'⟩
end
end Mine
end
/-! MSent -/
section
open PySem PySem.W PyProof.Rows
set_option linter.unusedVariables false
namespace Mine
def bfS : Option Nat → Str
  | none => ⟨#[]⟩
  | some k => ⟨#[k]⟩
def t1 (bf : Option Nat) (ch : Nat) : Bool := decide (ch = 13 ∨ (ch = 10 ∧ bf ≠ some 13))
def t2 (bf : Option Nat) (ch : Nat) : Bool := decide (ch = 46 ∧ (bf = none ∨ bf = some 13 ∨ bf = some 10))
def chunk (bf : Option Nat) (ch : Nat) : List Nat := if t1 bf ch then [13, 10] else if t2 bf ch then [46, 46] else if ch ≠ 10 then [ch] else []
def chunkS (bf : Option Nat) (ch : Nat) : List Str := if t1 bf ch then [Str.ofString "\r\n"] else if t2 bf ch then [Str.ofString ".."] else if ch ≠ 10 then [⟨#[ch]⟩] else []
def sentGo : Option Nat → List Nat → List Nat
  | _, [] => []
  | bf, k :: r => chunk bf k ++ sentGo (some k) r
def prev (l : List Nat) (i : Nat) : Option Nat := if i = 0 then none else l[i - 1]?
theorem bfS_eq (bf : Option Nat) (k : Nat) : (bfS bf == ⟨#[k]⟩) = decide (bf = some k) := by
  cases bf with
  | none => simp [bfS]
  | some j => show ((⟨#[j]⟩ : Str) == ⟨#[k]⟩) = _; rw [str1_eq]; simp
theorem s_cr : Str.ofString "\r" = ⟨#[13]⟩ := by decide +kernel
theorem s_lf : Str.ofString "\n" = ⟨#[10]⟩ := by decide +kernel
theorem s_dot : Str.ofString "." = ⟨#[46]⟩ := by decide +kernel
theorem s_nil : Str.ofString "" = ⟨#[]⟩ := by decide +kernel
theorem ExO.castX {c : Cx} {A : Around} {env : Env} {out : Str} {a : Addr} {ρ ρ' : Rho} {xs xs' xs'' : List D} {t : Sem Flow} (h : ExO c A env out a ρ xs t ρ' xs') (e : xs' = xs'') : ExO c A env out a ρ xs t ρ' xs'' := e ▸ h
section
variable {c : Cx} {A : Around} {env : Env} {ρ : Rho}
/-- a method of one argument -/
theorem ev_meth {o e : Expr} {name : Str} {apos pos : Pos} {T id : String} {d₁ d₂ d : D} (hb : attributeBase o name env (eval o env) = eval o env) (hl : (apos.endLine == pos.line) = true) (he : notStar e = true) (pa : PlainAttrs T) (sl : Slot T name id)
    (ty : typeOf (.builtin id) = pure (.type "method_descriptor")) (h₁ : Ev c A env ρ (eval o env) d₁) (hT : ∀ (s : Shared) v, Rp c.av s.heap v d₁ → s.TypeIs v T ∧ ∀ a, v = .ref a → ∃ ob, s.heap.get? a = some ob ∧ ob.dict = none)
    (h₂ : Ev c A env ρ (eval e env) d₂) (h : Fn c A (.builtin id) [d₁, d₂] d) : Ev c A env ρ (eval (.Call (.Attribute o name apos) [e] [] pos) env) d := by
  refine ⟨fun s Q E g hs hQ => ?_⟩
  refine wpAny_Call_method1_late hb hl (by rw [star_cons he]; rfl) (h₁.run s _ _ g hs fun v s₁ g₁ k₁ r₁ => ⟨T, id, pa, sl, ty, (hT s₁ v r₁).1, (hT s₁ v r₁).2, ?_⟩)
  refine Calls.callWith_builtin rfl (Calls.evalArgs_plain (Calls.spliced_cons (h₂.run s₁ _ _ g₁ (hs.mono k₁) fun w s₂ g₂ k₂ r₂ => Calls.spliced_nil ?_)))
  exact h.run s₂ [v, w] _ _ g₂ (RpL.cons (r₁.mono k₂.kl) (RpL.one r₂)) fun u s₃ g₃ k₃ r₃ => hQ u s₃ g₃ ((k₁.trans k₂).trans k₃) r₃
theorem ev_join {o e : Expr} {apos pos : Pos} {x : Str} {ss : List Str} (hb : attributeBase o (Str.ofString "join") env (eval o env) = eval o env) (hl : (apos.endLine == pos.line) = true) (he : notStar e = true)
    (h₁ : Ev c A env ρ (eval o env) (.str x)) (h₂ : Ev c A env ρ (eval e env) (.list (ss.map .str))) (hok : JoinOk x ss = true) : Ev c A env ρ (eval (.Call (.Attribute o (Str.ofString "join") apos) [e] [] pos) env) (.str (Txt.join x ss)) :=
  ev_meth hb hl he PySem.F.plainAttrs_str PySem.F.slot_str_join PySem.F.type_str_join h₁ (fun s v r => ⟨rp_typeS r, fun a e => by obtain ⟨t, rfl⟩ := rp_str.mp r; cases e⟩) h₂ (fn_join hok)
end
section
variable {c : Cx} {A : Around}
set_option maxRecDepth 10000 in
theorem sent_turn (O : c.Ok) {L a : Addr} {k : Nat} (hR : Rm A 2) (hav : c.av a) (ha0 : c.h₀.get? a = none) {text : Str} {bf : Option Nat} {ch : Nat} {xs : List D} (hbf : ∀ j, bf = some j → j < 1114112) (hch : ch < 1114112) (hz : xs.length < sizeLine) {body : List Stmt}
    (hbody : body = (match (fdAt 114).body with | .stmts (_ :: _ :: .For _ _ b _ _ :: _) => b | _ => [])) :
    ExO c A (callEnvC (fdAt 114) L 114) (Str.ofString "out") a ((Str.ofString "sign", .str ⟨#[ch]⟩) :: [(Str.ofString "before", .str (bfS bf)), (Str.ofString "text", .str text)]) xs (execs body (callEnvC (fdAt 114) L 114))
      [(Str.ofString "before", .str (bfS (some ch))), (Str.ofString "text", .str text)] (xs ++ (chunkS bf ch).map .str) := by
  subst hbody
  have ht1 : ((⟨#[ch]⟩ : Str) == Str.ofString "\r" || ((⟨#[ch]⟩ : Str) == Str.ofString "\n" && bfS bf != Str.ofString "\r")) = t1 bf ch := by
    rw [s_cr, s_lf, bne, str1_eq, str1_eq, bfS_eq]; unfold t1
    by_cases h1 : ch = 13 <;> by_cases h2 : ch = 10 <;> by_cases h3 : bf = some 13 <;> simp [h1, h2, h3]
  have ht2 : ((⟨#[ch]⟩ : Str) == Str.ofString "." && ((toPs [.str (Str.ofString ""), .str (Str.ofString "\r"), .str (Str.ofString "\n")]).any fun y => PyData.eqv y (toP (.str (bfS bf))))) = t2 bf ch := by
    rw [s_cr, s_lf, s_dot, s_nil, str1_eq]; unfold t2
    simp only [toPs, toP, List.any_cons, List.any_nil, PyData.eqv]
    have e1 : ((⟨#[]⟩ : Str) == bfS bf) = decide (bf = none) := by cases bf <;> simp [bfS]
    have e2 : ∀ k : Nat, ((⟨#[k]⟩ : Str) == bfS bf) = decide (bf = some k) := fun k => by rw [BEq.comm]; exact bfS_eq bf k
    rw [e1, e2, e2]
    by_cases h1 : ch = 46 <;> by_cases h2 : bf = none <;> by_cases h3 : bf = some 13 <;> by_cases h4 : bf = some 10 <;> simp [h1, h2, h3, h4]
  have ht3 : ((⟨#[ch]⟩ : Str) != Str.ofString "\n") = decide (ch ≠ 10) := by
    rw [s_lf, bne, str1_eq]; simp
  have hn : A.units + 1 + min (PyData.depthAll (toPs [.str (Str.ofString ""), .str (Str.ofString "\r"), .str (Str.ofString "\n")])) (toP (.str (bfS bf))).depth < cLine := by
    have := hR.units
    have e : PyData.depth (toP (.str (bfS bf))) = 0 := rfl
    rw [e]
    show A.units + 1 + min _ 0 < 9900
    omega
  have hcl : PyData.canLay0 (toP (.str (bfS bf))) = true := by
    cases bf with
    | none => simp [bfS, toP, PyData.canLay0, PyData.strOk]
    | some j => simp [bfS, toP, PyData.canLay0, PyData.strOk, hbf j rfl]
  refine exo_cons (ρ₁ := (Str.ofString "sign", .str ⟨#[ch]⟩) :: [(Str.ofString "before", .str (bfS bf)), (Str.ofString "text", .str text)]) (xs₁ := xs ++ (chunkS bf ch).map .str) (exo_If (tv := t1 bf ch) ((tv_or (tv_Compare (ev_Name rfl rfl rfl rfl) ev_str cmp_eq_str rfl) (fun _ => tv_and (tv_Compare (ev_Name rfl rfl rfl rfl) ev_str cmp_eq_str rfl) (fun _ => tv_Compare (ev_Name rfl rfl rfl rfl) ev_str cmp_ne_str rfl))).cast ht1) (fun h => ?_) (fun h => ?_)) ?_
  · refine (exo_cons (exo_append O rfl hav ha0 ev_str hz rfl rfl rfl rfl rfl rfl) exo_nil).castX ?_
    simp [chunkS, h]
  · refine exo_cons (exo_If (tv := t2 bf ch) ((tv_and (tv_Compare (ev_Name rfl rfl rfl rfl) ev_str cmp_eq_str rfl) (fun _ => tv_Compare (ev_Name rfl rfl rfl rfl) (ev_List (evl_cons ev_str (evl_cons ev_str (evl_cons ev_str evl_nil)))) (cmp_in rfl rfl (by decide +kernel) hcl hn) rfl)).cast ht2) (fun h' => ?_) (fun h' => ?_)) exo_nil
    · refine (exo_cons (exo_append O rfl hav ha0 ev_str hz rfl rfl rfl rfl rfl rfl) exo_nil).castX ?_
      simp [chunkS, h, h']
    · refine exo_cons (exo_If (tv := decide (ch ≠ 10)) ((tv_Compare (ev_Name rfl rfl rfl rfl) ev_str cmp_ne_str rfl).cast ht3) (fun h'' => ?_) (fun h'' => ?_)) exo_nil
      · refine (exo_cons (exo_append O rfl hav ha0 (ev_Name rfl rfl rfl rfl) hz rfl rfl rfl rfl rfl rfl) exo_nil).castX ?_
        have : ch ≠ 10 := by simpa using h''
        simp [chunkS, h, h', this]
      · refine exo_nil.castX ?_
        have : ch = 10 := by simpa using h''
        simp only [chunkS, h, h', Bool.false_eq_true, if_false]
        simp [this]
  · refine (exo_cons (exo_Assign O rfl (.inl rfl) (by decide +kernel) (ev_Name rfl rfl rfl rfl) rfl) exo_nil).weak (fun _ _ e => e) ?_
    intro x d e
    rw [List.lookup_cons] at e
    rw [List.lookup_cons]
    cases q : x == Str.ofString "before" with
    | true => rw [q] at e; exact e
    | false =>
      rw [q] at e
      rw [List.lookup_cons] at e
      cases q2 : x == Str.ofString "text" with
      | false => rw [q2] at e; cases e
      | true =>
        rw [q2] at e
        rw [eq_of_beq q2]
        exact e
end
end Mine
end
/-! MSent2 -/
section
open PySem PySem.W PyProof.Rows
set_option linter.unusedVariables false
namespace Mine
theorem join_nil : ∀ ss : List Str, Txt.join (Str.ofString "") ss = ⟨((ss.map fun s => s.cps.toList).flatten).toArray⟩ := by
  have key : ∀ ss : List Str, Str.join ⟨#[]⟩ ss = ⟨((ss.map fun s => s.cps.toList).flatten).toArray⟩ := by
    intro ss
    induction ss with
    | nil => rfl
    | cons x r ih =>
      cases r with
      | nil => obtain ⟨⟨l⟩⟩ := x; simp [Str.join]
      | cons y q =>
        rw [Str.join]
        rw [ih]
        · obtain ⟨⟨l⟩⟩ := x
          show (Str.mk _) = _
          apply congrArg Str.mk
          apply Array.ext'
          simp [Str.cps_append]
        · exact nofun
  intro ss
  rw [s_nil]
  show Builtin.Str.glued _ _ = _
  rw [StrLaws.glued_eq_join]
  exact key ss
theorem chunkS_len (bf : Option Nat) (ch : Nat) : (chunkS bf ch).length ≤ 1 := by
  unfold chunkS; (repeat' split) <;> simp
theorem chunkS_flat (bf : Option Nat) (ch : Nat) : ((chunkS bf ch).map fun s => s.cps.toList).flatten = chunk bf ch := by
  unfold chunkS chunk
  rw [show Str.ofString "\r\n" = ⟨#[13, 10]⟩ from by decide +kernel, show Str.ofString ".." = ⟨#[46, 46]⟩ from by decide +kernel]
  (repeat' split) <;> simp
theorem chunkS_sum (bf : Option Nat) (ch : Nat) : ((chunkS bf ch).map (·.length)).sum ≤ 2 := by
  unfold chunkS
  rw [show Str.ofString "\r\n" = ⟨#[13, 10]⟩ from by decide +kernel, show Str.ofString ".." = ⟨#[46, 46]⟩ from by decide +kernel]
  (repeat' split) <;> simp [Str.length]
/-- what has been put out behind i signs -/
def outS (l : List Nat) (i : Nat) : List Str := ((List.range i).map fun j => chunkS (prev l j) (l.getD j 0)).flatten
theorem outS_succ (l : List Nat) (i : Nat) : outS l (i + 1) = outS l i ++ chunkS (prev l i) (l.getD i 0) := by
  unfold outS
  rw [List.range_succ, List.map_append, List.flatten_append]; simp
theorem outS_len (l : List Nat) : ∀ i, (outS l i).length ≤ i
  | 0 => by simp [outS]
  | i + 1 => by
    rw [outS_succ, List.length_append]
    have := outS_len l i; have := chunkS_len (prev l i) (l.getD i 0); omega
theorem outS_sum (l : List Nat) : ∀ i, ((outS l i).map (·.length)).sum ≤ 2 * i
  | 0 => by simp [outS]
  | i + 1 => by
    rw [outS_succ, List.map_append, List.sum_append]
    have := outS_sum l i; have := chunkS_sum (prev l i) (l.getD i 0); omega
theorem prev_cons (k : Nat) (r : List Nat) (j : Nat) : prev (k :: r) (j + 1) = (if j = 0 then some k else prev r j) := by
  unfold prev
  cases j with
  | zero => simp
  | succ j => simp
theorem go_eq (f : Nat → Nat → List Nat) : ∀ (l : List Nat) (bf : Option Nat), ((List.range l.length).map fun j => chunk (if j = 0 then bf else prev l j) (l.getD j 0)).flatten = sentGo bf l
  | [], bf => rfl
  | k :: r, bf => by
    rw [List.length_cons, List.range_succ_eq_map, List.map_cons, List.flatten_cons, List.map_map]
    unfold sentGo
    have ih := go_eq f r (some k)
    rw [← ih]
    simp only [List.getD_cons_zero, if_true]
    congr 2
    apply List.map_congr_left
    intro j hj
    simp only [Function.comp_apply, Nat.succ_eq_add_one, Nat.add_eq_zero_iff, Nat.one_ne_zero, and_false, if_false, List.getD_cons_succ]
    rw [prev_cons]
theorem outS_flat (l : List Nat) : ((outS l l.length).map fun s => s.cps.toList).flatten = sentGo none l := by
  rw [← go_eq (fun _ _ => []) l none]
  have e : ∀ i, ((outS l i).map fun s => s.cps.toList).flatten = ((List.range i).map fun j => chunk (prev l j) (l.getD j 0)).flatten := by
    intro i
    induction i with
    | zero => rfl
    | succ i ih => rw [outS_succ, List.map_append, List.flatten_append, ih, chunkS_flat, List.range_succ, List.map_append, List.flatten_append]; simp
  rw [e]
  congr 1
  apply List.map_congr_left
  intro j _
  by_cases h : j = 0
  · subst h; simp [prev]
  · simp [h]
section
variable {c : Cx} {A : Around}
set_option maxRecDepth 10000 in
set_option maxHeartbeats 1000000 in
theorem fn_sent (O : c.Ok) (hA : Rm A 3) {text : Str} (hz : text.length ≤ 1000) (hc : ∀ a ∈ text.cps.toList, a < 1114112) : Fn c A (.ref 114) [.str text] (.str ⟨(sentGo none text.cps.toList).toArray⟩) := by
  refine fn_call (fd := fdAt 114) (ps := [Str.ofString "text"]) (k := 2) O hA (O.K 114 _ rfl) rfl rfl ⟨113, _, _, _, rfl, O.K 113 _ rfl, nofun, rfl, rfl⟩ ?_ rfl (by decide) rfl rfl ?_ rfl rfl rfl
  · intro vals hv
    match vals, hv with
    | [x], _ => rfl
  · intro L hR
    have hsl : sizeLine = 2 ^ 24 := rfl
    refine ex_open O rfl (.inl rfl) rfl fun a hna ha0 => ?_
    refine exq_next (exo_Assign (O.or1 a) rfl (.inl rfl) (by decide +kernel) ev_str rfl) ?_
    have hlen : (text.cps.toList.map fun k => D.str ⟨#[k]⟩).length = text.cps.toList.length := by simp
    have hfor := exo_For (c := c.or1 a) (A := A.deeper (callEnvC (fdAt 114) L 114)) (env := callEnvC (fdAt 114) L 114) (out := Str.ofString "out") (a := a) (x := Str.ofString "sign") (px := ⟨63, 8, 63, 12⟩) (pos := ⟨63, 4, 70, 21⟩)
      (body := (match (fdAt 114).body with | .stmts (_ :: _ :: .For _ _ b _ _ :: _) => b | _ => [])) (iter := .Name (Str.ofString "text") ⟨63, 16, 63, 20⟩) (ρ := [(Str.ofString "before", .str (Str.ofString "")), (Str.ofString "text", .str text)])
      (ds := text.cps.toList.map fun k => D.str ⟨#[k]⟩) (xs := []) (fun i => [(Str.ofString "before", .str (bfS (prev text.cps.toList i))), (Str.ofString "text", .str text)]) (fun i => (outS text.cps.toList i).map .str) (O.or1 a) hR.hd rfl (.inl rfl) (by decide +kernel) (.inr rfl)
      (it_str (ev_Name rfl rfl rfl rfl)) (by intro y d e; rw [show bfS (prev text.cps.toList 0) = Str.ofString "" from by rw [s_nil]; rfl] at e; exact e) rfl ?_
    · rw [hlen] at hfor
      refine exq_next hfor ?_
      refine exq_close (W := fun _ => False) hna ?_
      refine ex_ret (ex_Return ((ev_join (ss := outS text.cps.toList text.cps.toList.length) rfl rfl rfl ev_str (ev_Name rfl rfl rfl rfl) (joinOk_of ?_)).cast ?_))
      · have h1 := outS_sum text.cps.toList text.cps.toList.length
        have h2 : text.cps.toList.length = text.length := by simp [Str.length]
        rw [s_nil]
        show _ + _ * 0 ≤ _
        omega
      · rw [join_nil, outS_flat]
    · intro i d hd
      rw [List.getElem?_map] at hd
      cases q : text.cps.toList[i]? with
      | none => rw [q] at hd; cases hd
      | some ch =>
        rw [q] at hd
        cases hd
        have hch : ch < 1114112 := hc ch (List.mem_of_getElem? q)
        have hi := (List.getElem?_eq_some_iff.mp q).1
        have hlt : text.cps.toList.length = text.length := by simp [Str.length]
        have e1 : text.cps.toList.getD i 0 = ch := by rw [List.getD_eq_getElem?_getD, q]; rfl
        have e2 : prev text.cps.toList (i + 1) = some ch := by unfold prev; simpa using q
        have := sent_turn (A := A.deeper (callEnvC (fdAt 114) L 114)) (O.or1 a) (L := L) (k := 0) hR (.inr rfl) ha0 (text := text) (bf := prev text.cps.toList i) (ch := ch) (xs := (outS text.cps.toList i).map .str) ?_ hch ?_ rfl
        · rw [e2, outS_succ, e1, List.map_append]
          exact this
        · intro j hj
          unfold prev at hj
          split at hj
          · cases hj
          · exact hc j (List.mem_of_getElem? hj)
        · have := outS_len text.cps.toList i
          simp
          omega
end
end Mine
end
/-! MComp4 -/
section
open PySem PySem.W PyProof.Rows
set_option linter.unusedVariables false
namespace Mine
section
variable {c : Cx} {A : Around} {env : Env} {ρ : Rho} {N : Str → Prop}
/-- the inner clause of two -/
def nest (elt : Expr) (gens : List Comprehension) (scope : Scope) (pos : Pos) (iter : Expr) (D₀ : Addr) (env : Env) : Sem Unit :=
  eval iter env >>= fun x => standAt iter.pos >>= fun _ => foldedSetIterable iter env x >>= fun x => holding [x] (pyIter x) >>= fun it => runOwn (.compStart (.ListComp elt gens scope pos) 1 it (.ref D₀) env) env >>= fun _ => pure ()
theorem turn_two (elt : Expr) (x y : Str) (px py : Pos) (iter iter2 : Expr) (scope : Scope) (pos : Pos) (I D₀ : Addr) (env : Env) :
    compTurn (.ListComp elt [⟨.Name x px, iter, [], 0⟩, ⟨.Name y py, iter2, [], 0⟩] scope pos) 0 (.ref I) (.ref D₀) env = (standAt iter.pos >>= fun _ => pyNext (.ref I) >>= fun r => match r with
      | none => pure (.done .next)
      | some v => letOwnedTupleGo (.Name x px) (.ref I) v >>= fun _ => assign (.Name x px) env v >>= fun _ => nest elt [⟨.Name x px, iter, [], 0⟩, ⟨.Name y py, iter2, [], 0⟩] scope pos iter2 D₀ env >>= fun _ =>
        again (.compLoop (.ListComp elt [⟨.Name x px, iter, [], 0⟩, ⟨.Name y py, iter2, [], 0⟩] scope pos) 0 (.ref I) (.ref D₀) env)) := by
  unfold nest
  simp only [bind_assoc, pure_bind]
  rfl
theorem turn_inner (elt : Expr) (x y : Str) (px py : Pos) (iter iter2 : Expr) (scope : Scope) (pos : Pos) (I D₀ : Addr) (env : Env) :
    compTurn (.ListComp elt [⟨.Name x px, iter, [], 0⟩, ⟨.Name y py, iter2, [], 0⟩] scope pos) 1 (.ref I) (.ref D₀) env = (standAt iter2.pos >>= fun _ => pyNext (.ref I) >>= fun r => match r with
      | none => pure (.done .next)
      | some v => letOwnedTupleGo (.Name y py) (.ref I) v >>= fun _ => assign (.Name y py) env v >>= fun _ => (eval elt env >>= fun x => call (.builtin "list.append") [.ref D₀, x] >>= fun _ => pure ()) >>= fun _ =>
        again (.compLoop (.ListComp elt [⟨.Name x px, iter, [], 0⟩, ⟨.Name y py, iter2, [], 0⟩] scope pos) 1 (.ref I) (.ref D₀) env)) := by rfl
theorem act_nest {D₀ : Addr} {elt iter iter2 : Expr} {x y : Str} {px py : Pos} {scope : Scope} {pos : Pos} {ds es : List D}
    (O : c.Ok) (hA : A.handled = none) (hk : env.scope.kind = .function) (hy : Kept env y) (hN : N y) (hD : c.av D₀) (hD0 : c.h₀.get? D₀ = none) (hit : It c A env ρ iter2 ds) (hlen : es.length = ds.length)
    (he : ∀ (i : Nat) d e, ds[i]? = some d → es[i]? = some e → Ev c A env ((y, d) :: ρ) (eval elt env) e) (hρ : ρ.lookup y = none)
    (hfs : ∀ v, foldedSetIterable iter2 env v = pure v := by intro _; rfl) :
    Act c N A env D₀ ρ (nest elt [⟨.Name x px, iter, [], 0⟩, ⟨.Name y py, iter2, [], 0⟩] scope pos iter2 D₀ env) es := by
  refine ⟨fun s Q E vs done g hs hl r hz hQ => ?_⟩
  unfold nest
  refine wpAny_bind (wpAny_mono (hit.run s (fun v s₁ => _) E g hs fun I s₁ fp P St g₁ k₁ S hfr => ?_) (fun v s₁ h => wpAny_bind (wpAny_standAt (wpAny_bind (wpAny_of_eq (hfs v) (wpAny_bind (wpAny_holding h)))))) fun _ _ h => h)
  have S₀ := S
  have h1 := comp_loop (c := c) (A := A.mark none) (N := N) (elt := elt) (k := 1) (iter := iter2) (px := py) (gens := [⟨.Name x px, iter, [], 0⟩, ⟨.Name y py, iter2, [], 0⟩]) (scope := scope) (pos := pos) (ds := ds) (s := s₁) (vs := vs) (done := done)
    (R := fun r s' => match r with | .ok f => wpAny (model c.prog c.w) A (pure ()) Q E s' | .error e => cameBackBy (model c.prog c.w) A env E e s') (fss := fun i => (es[i]?).toList) (ρ := ρ) (env := env) (D₀ := D₀) O hA hk hy hN hD S rfl
    (turn_inner ..) (fun i d hd => ?_) ?_ hρ g₁ (hs.mono k₁) (k₁.list hl) (r.mono k₁.kl) fun s' vs' g' kf hs' hl' r' => ?_
  · refine wpAny_bind (wpAny_runOwn ?_ nofun)
    refine compStart_go (g := ⟨.Name y py, iter2, [], 0⟩) rfl rfl h1 ?_
    exact (S.W _ hA).self 0 _ _ _ S.start h1
  · have hi : i < es.length := by rw [hlen]; exact (List.getElem?_eq_some_iff.mp hd).1
    have hee : es[i]? = some es[i] := by simp [hi]
    rw [hee]
    exact act_last O hD hD0 (he i d _ hd hee)
  · rw [← hlen, flat_opt]
    exact hz
  · rw [← hlen, flat_opt] at r'
    refine wpAny_pure (hQ s' vs' g' ?_ hs' hl' r')
    intro b o n e1 e2 e3 e
    refine kf b o n e1 e2 ?_ (k₁ b o n e)
    rintro (q | rfl)
    · exact e3 q
    · exact hfr o n e
/-- «x = [..]» of two clauses, the stores exchanged -/
theorem ex_AssignComp2 {W : Addr → Prop} {elt iter iter2 : Expr} {x x2 y : Str} {px px2 py pos spos : Pos} {scope : Scope} {ds es : List D} {ds2 es2 : Nat → List D}
    (O : c.Ok) (hA : A.handled = none) (hk : env.scope.kind = .function) (hy : Kept env y) (hsw : swapsWith (.ListComp elt [⟨.Name x px, iter, [], 0⟩, ⟨.Name x2 px2, iter2, [], 0⟩] scope pos) (some (.Name y py)) spos.line env = pure true)
    (hfr : frOk scope env = true) (hkind : scope.kind = .function) (hnames : ∀ y ∈ scope.names, y.2 = .local → scope.names.lookup y.1 = some .local)
    (hx : scope.names.lookup x = some .local ∨ scope.names.lookup x = some .cell) (hxf : (x, NameKind.free) ∉ scope.names) (hx2 : scope.names.lookup x2 = some .local ∨ scope.names.lookup x2 = some .cell) (hxf2 : (x2, NameKind.free) ∉ scope.names) (hne : (x2 == x) = false)
    (hit : It c A env ρ iter ds) (hlen : ∀ i, (es2 i).length = (ds2 i).length)
    (hit2 : ∀ (c' : Cx) C, c'.Ok → c'.prog = c.prog → c'.w = c.w → c'.mg = c.mg → c'.mb = c.mb → c'.h₀ = c.h₀ → ∀ i d, ds[i]? = some d → It c' A (cEnv scope C env) ((x, d) :: inn scope ρ) iter2 (ds2 i))
    (ha : ∀ (c' : Cx) C, c'.Ok → c'.prog = c.prog → c'.w = c.w → c'.mg = c.mg → c'.mb = c.mb → c'.h₀ = c.h₀ → ∀ (i : Nat) (d : D), ds[i]? = some d → ∀ (j : Nat) (d2 e : D), (ds2 i)[j]? = some d2 → (es2 i)[j]? = some e →
      Ev c' A (cEnv scope C env) ((x2, d2) :: (x, d) :: inn scope ρ) (eval elt (cEnv scope C env)) e)
    (hes : es = ((List.range ds.length).map es2).flatten) (hz : es.length ≤ sizeLine) (hfs : ∀ v, foldedSetIterable iter env v = pure v := by intro _; rfl) (hfs2 : ∀ env v, foldedSetIterable iter2 env v = pure v := by intro _ _; rfl) :
    Ex c W A env ρ (exec (.Assign [.Name y py] (.ListComp elt [⟨.Name x px, iter, [], 0⟩, ⟨.Name x2 px2, iter2, [], 0⟩] scope pos) spos) env) (.next ((y, .list es) :: ρ)) := by
  refine ⟨fun s Q E g hs hQ => ?_⟩
  rw [exec_Assign_Name_used _ _ _ _ hsw]
  refine wpAny_bind (wpAny_standAt (wpAny_bind ?_))
  show wpAny _ A (do let _ ← comprehension (.ListComp elt [⟨.Name x px, iter, [], 0⟩, ⟨.Name x2 px2, iter2, [], 0⟩] scope pos) scope env _ (newList []) false (eval iter env) (some (assign (.Name y py) env))) _ _ s
  refine wpAny_bind (wpAny_mono (comp_run (N := fun z => z = x ∨ z = x2) (fss := es2) (act := fun I D₀ C => nest elt [⟨.Name x px, iter, [], 0⟩, ⟨.Name x2 px2, iter2, [], 0⟩] scope pos iter2 D₀ (cEnv scope C env)) O hA hfr hkind hnames hx (.inl rfl) (fun y hy => hy.elim (fun e => e ▸ hxf) (fun e => e ▸ hxf2)) hit
    (fun I D₀ C => turn_two ..) ?_ hes hz g hs (Q := fun _ s' => Q .next s') ?_ hfs) (fun _ s' hq => wpAny_pure (wpAny_pure hq)) fun _ _ e => e)
  · intro c' I D₀ C O' h1 h2 h3 h4 h5 hav hh i d hd
    refine act_nest O' hA ?_ (kept_cEnv hx2) (.inr rfl) hav hh (hit2 c' C O' h1 h2 h3 h4 h5 i d hd) (hlen i) (fun j d2 e hj he => ha c' C O' h1 h2 h3 h4 h5 i d hd j d2 e hj he) ?_ (fun v => hfs2 _ v)
    · show (relabel scope env).kind = _; exact hkind
    · rw [List.lookup_cons, hne, lookup_none_iff]
      intro hm
      obtain ⟨p, hp, rfl⟩ := List.mem_map.mp hm
      have : scope.names.lookup p.1 = some .free := by simpa using (List.mem_filter.mp hp).2
      rw [this] at hx2
      rcases hx2 with hx2 | hx2 <;> cases hx2
  · intro D₀ C s' g' k' r' hn hh hav hfr' hnl
    obtain ⟨m, hm⟩ := hn
    show wpAny _ A (assign (.Name y py) env (.ref D₀)) _ _ _
    refine wpAny_assign_Name (store_ok O hk g' (hs.mono k') hy r' fun h₂ tk g₂ kf₂ hs₂ _ hsb _ => ?_)
    have hCne : ∀ a, (a = env.locals ∨ ∃ y, env.cells.lookup y = some a) → C ≠ a := by
      rintro a (rfl | ⟨z, hz⟩) rfl
      · obtain ⟨m, o, es, ep, ho, hd, _⟩ := hs.own.ns; exact hfr' o (NT.data (by rw [hd]; nofun)) ho
      · obtain ⟨v, o, ho, hd⟩ := hs.own.cells z _ hz; exact hfr' o (NT.data (by rw [hd]; nofun)) ho
    obtain ⟨a₂, hsb₂, ha₂⟩ := hsb
    refine ⟨m, hm.sameBut hsb₂ (hCne a₂ ha₂), fun h₃ hs₃ => ?_⟩
    have hnl₂ : ∀ items, ¬ h₂.PlainList C items := not_list_ns (hm.sameBut hsb₂ (hCne a₂ ha₂))
    have kl₃ : KL c.av h₂ h₃ := KL.same hs₃ hnl₂
    refine hQ _ _ (G.same O g₂ hh hs₃ (.inl hav)) ?_ ⟨rfl, hs₂.ext hs₃.extBut (hCne _ (.inl rfl)) (fun z hz => hCne _ (.inr ⟨z, hz⟩) rfl) kl₃⟩
    intro b o n h1 h2 h3 e
    exact hs₃.extBut b o (by rintro rfl; exact hfr' o n e) (kf₂ Tr W trivial b o n h1 h2 h3 (k' b o n e))
end
end Mine
end
/-! MOrders -/
section
open PySem PySem.W PyProof.Rows
set_option linter.unusedVariables false
namespace Mine
theorem sliceL_plain (xs : List D) (lo hi : Option Int) : sliceL xs lo hi none = (xs.drop (lo.elim 0 (clipAt xs.length))).take (hi.elim xs.length (clipAt xs.length) - lo.elim 0 (clipAt xs.length)) := by
  unfold sliceL
  rw [sliceBounds_plain]
  simp only [sliceRange_one]
  exact fm_take xs _ _
theorem sliceL_from (xs : List D) (a : Nat) : sliceL xs (some a) none none = xs.drop a := by
  rw [sliceL_plain]
  simp only [Option.elim, clipAt_nat]
  rcases Nat.le_total a xs.length with h | h
  · rw [Nat.min_eq_left h, List.take_of_length_le (by simp)]
  · rw [Nat.min_eq_right h, List.drop_of_length_le (Nat.le_refl _), List.drop_of_length_le h]; simp
theorem sliceL_upto (xs : List D) (b : Nat) : sliceL xs none (some b) none = xs.take b := by
  rw [sliceL_plain]
  simp only [Option.elim, clipAt_nat, List.drop_zero, Nat.sub_zero]
  rcases Nat.le_total b xs.length with h | h
  · rw [Nat.min_eq_left h]
  · rw [Nat.min_eq_right h, List.take_of_length_le (Nat.le_refl _), List.take_of_length_le h]
theorem sliceL_run (xs : List D) (a b : Nat) (hab : a ≤ b) : sliceL xs (some a) (some b) none = (xs.drop a).take (b - a) := by
  rw [sliceL_plain]
  simp only [Option.elim, clipAt_nat]
  rcases Nat.le_total b xs.length with h | h
  · rw [Nat.min_eq_left h, Nat.min_eq_left (by omega)]
  · rw [Nat.min_eq_right h]
    rcases Nat.le_total a xs.length with h' | h'
    · rw [Nat.min_eq_left h', List.take_of_length_le (by simp), List.take_of_length_le (by simp; omega)]
    · rw [Nat.min_eq_right h', List.drop_of_length_le (Nat.le_refl _), List.drop_of_length_le h']; simp

/-- the orders of the first n numbers, as the law makes them -/
def ordV : Nat → List (List Int)
  | 0 => [[]]
  | k + 1 => ((List.range (ordV k).length).map fun i => (List.range (k + 1)).map fun j => ((ordV k).getD i []).take j ++ [(k : Int)] ++ ((ordV k).getD i []).drop j).flatten
def LI (o : List Int) : D := .list (o.map .int)
def LLI (os : List (List Int)) : D := .list (os.map LI)
section
variable {c : Cx} {A : Around}
theorem mg_range (O : c.Ok) : c.mg "range" = none := mg_is O rfl
theorem bi_range (O : c.Ok) : c.mg "range" = none ∧ c.mb "range" = some (.type "range") := ⟨mg_range O, mb_of O (by decide) rfl⟩
theorem ord_len : ∀ i, i < 5 → (ordV i).length ≤ 24 ∧ ∀ o ∈ ordV i, o.length = i := by decide
set_option maxRecDepth 10000 in
set_option maxHeartbeats 1000000 in
theorem fn_orders (O : c.Ok) (hA : Rm A 3) {n : Nat} (hn : n < 5) : Fn c A (.ref 107) [.int n] (LLI (ordV n)) := by
  refine fn_call (fd := fdAt 107) (ps := [Str.ofString "n"]) (k := 2) O hA (O.K 107 _ rfl) rfl rfl ⟨106, _, _, _, rfl, O.K 106 _ rfl, nofun, rfl, rfl⟩ ?_ rfl (by decide) rfl rfl ?_ rfl rfl rfl
  · intro vals hv
    match vals, hv with
    | [x], _ => rfl
  · intro L hR
    have ok : EnvOk (callEnvC (fdAt 107) L 107) := callEnv_ok rfl rfl rfl
    have hsl : sizeLine = 2 ^ 24 := rfl
    refine ex_next (ex_Assign (d := LLI (ordV 0)) O rfl (.inl rfl) (ev_List (evl_cons (ev_List evl_nil) evl_nil) (by decide)) rfl) ?_
    have hlr : ((List.range n).map fun (i : Nat) => D.int i).length = n := by simp
    refine ex_next (ρ' := [(Str.ofString "orders", LLI (ordV ((List.range n).map fun (i : Nat) => D.int i).length))]) (ex_For (ds := (List.range n).map fun (i : Nat) => D.int i) (fun i => [(Str.ofString "orders", LLI (ordV i))]) O hR.hd rfl (.inr ⟨rfl, rfl⟩) (fun _ q => q.elim) (it_range1 O ok rfl rfl (bi_range O) (ev_Name rfl rfl rfl rfl) (by omega)) ?_ ?_) ?_
    · intro y d e
      rw [List.lookup_cons] at e ⊢
      cases q : y == Str.ofString "orders" with
      | true => rw [q] at e; exact e
      | false => rw [q] at e; cases e
    · intro i d hd
      have hi : i < n := by
        have := (List.getElem?_eq_some_iff.mp hd).1
        simpa using this
      have hd' : d = .int i := by
        rw [List.getElem?_map, List.getElem?_range hi] at hd
        cases hd; rfl
      subst hd'
      obtain ⟨h1, h2⟩ := ord_len i (by omega)
      obtain ⟨h3, _⟩ := ord_len (i + 1) (by omega)
      refine Ex.weak (ρ' := (Str.ofString "orders", LLI (ordV (i + 1))) :: (Str.ofString "k", D.int i) :: [(Str.ofString "orders", LLI (ordV i))]) (ex_next (ex_AssignComp2 (ds := (ordV i).map LI) (es := (ordV (i + 1)).map LI) (ds2 := fun _ => (List.range (i + 1)).map fun (j : Nat) => D.int j) (es2 := fun a => ((List.range (i + 1)).map fun j => ((ordV i).getD a []).take j ++ [(i : Int)] ++ ((ordV i).getD a []).drop j).map LI) O hR.hd rfl (.inl rfl) rfl rfl rfl (by decide +kernel) (.inl rfl) (by decide +kernel) (.inl rfl) (by decide +kernel) (by decide +kernel) (it_list (ev_Name rfl rfl rfl rfl)) (fun a => by simp) ?_ ?_ ?_ (by simp; omega)) ex_nil) (fun _ _ e => e) ?_
      · intro c' C O' _ _ h3 h4 _ a d' hd'
        exact it_range1 O' ⟨rfl, rfl, rfl⟩ rfl rfl (bi_range O') (ev_BinOp (ev_Name rfl rfl rfl rfl) ev_int op_add_int) (by omega)
      · intro c' C O' _ _ _ _ _ a d' hd' j d2 e hd2 he
        have ha : a < (ordV i).length := by
          have := (List.getElem?_eq_some_iff.mp hd').1
          simpa using this
        have hj : j < i + 1 := by
          have := (List.getElem?_eq_some_iff.mp hd2).1
          simpa using this
        have e1 : d' = LI ((ordV i).getD a []) := by
          rw [List.getElem?_map, List.getElem?_eq_getElem ha] at hd'
          cases hd'
          simp [List.getD_eq_getElem?_getD, ha]
        have e2 : d2 = .int j := by
          rw [List.getElem?_map, List.getElem?_range hj] at hd2
          cases hd2; rfl
        have e3 : e = LI (((ordV i).getD a []).take j ++ [(i : Int)] ++ ((ordV i).getD a []).drop j) := by
          rw [List.getElem?_map, List.getElem?_map, List.getElem?_range hj] at he
          cases he; rfl
        subst e1 e2 e3
        generalize ho : (ordV i).getD a [] = o
        have hlen : o.length = i := by
          refine h2 o ?_
          rw [← ho, List.getD_eq_getElem?_getD, List.getElem?_eq_getElem ha]
          exact List.getElem_mem ha
        unfold LI
        rw [List.map_append, List.map_append, List.map_take, List.map_drop]
        refine ev_BinOp (ev_BinOp ((ev_sliceL (lo := none) (hi := some (j : Int)) (k := none) (ev_Name rfl rfl rfl rfl) evp_none (evp_some (ev_Name rfl rfl rfl rfl)) evp_none (by simp) (by simp; omega)).cast (by rw [sliceL_upto])) (ev_List (evl_cons (ev_Name rfl rfl rfl rfl) evl_nil)) (op_add_list (by simp; omega)))
          ((ev_sliceL (lo := some (j : Int)) (hi := none) (k := none) (ev_Name rfl rfl rfl rfl) (evp_some (ev_Name rfl rfl rfl rfl)) evp_none evp_none (by simp) (by simp; omega)).cast (by rw [sliceL_from])) (op_add_list (by simp; omega))
      · show ((ordV (i + 1)).map LI) = _
        rw [ordV, List.map_flatten, List.map_map, List.length_map]
        rfl
      · intro y d e
        rw [List.lookup_cons] at e ⊢
        cases q : y == Str.ofString "orders" with
        | true => rw [q] at e; exact e
        | false => rw [q] at e; cases e
    · rw [hlr]
      exact ex_ret (ex_Return (ev_Name rfl rfl rfl rfl))
end
end Mine
end
/-! RSre -/
section
open PySem PySem.W PyProof.Rows
set_option linter.unusedVariables false
namespace Mine
open PySem.Sre
def stepN : Nat → M → M
  | 0, m => m
  | n + 1, m => stepN n m.step
theorem step_done {m : M} (h : m.outcome.isSome = true) : m.step = m := by unfold M.step; rw [if_pos h]
theorem stepN_done {m : M} (h : m.outcome.isSome = true) : ∀ n, stepN n m = m
  | 0 => rfl
  | n + 1 => by rw [stepN, step_done h, stepN_done h n]
theorem runFor_eq : ∀ n m, M.runFor n m = stepN n m
  | 0, m => rfl
  | n + 1, m => by
    unfold M.runFor
    split
    · rename_i h; exact (stepN_done h _).symm
    · rw [runFor_eq n]; rfl
theorem stepN_add : ∀ (a b : Nat) (m : M), stepN (a + b) m = stepN b (stepN a m)
  | 0, b, m => by rw [Nat.zero_add]; rfl
  | a + 1, b, m => by rw [Nat.add_right_comm]; exact stepN_add a b m.step
/-- the machine comes to its end -/
def Ends (n : Nat) (m m' : M) : Prop := ∃ k, k ≤ n ∧ stepN k m = m' ∧ m'.outcome.isSome = true
theorem Ends.step {n : Nat} {m m' : M} (h : Ends n m.step m') : Ends (n + 1) m m' := let ⟨k, h1, h2, h3⟩ := h; ⟨k + 1, by omega, h2, h3⟩
theorem Ends.step' {n : Nat} {m m₁ m' : M} (e : m.step = m₁) (h : Ends n m₁ m') : Ends (n + 1) m m' := Ends.step (e ▸ h)
theorem Ends.here {n : Nat} {m : M} (h : m.outcome.isSome = true) : Ends n m m := ⟨0, Nat.zero_le _, rfl, h⟩
theorem Ends.le {n n' : Nat} {m m' : M} (h : Ends n m m') (hn : n ≤ n') : Ends n' m m' := let ⟨k, h1, h2, h3⟩ := h; ⟨k, by omega, h2, h3⟩
section
variable {prog : Program} {w : World} {A : Around} {E : Value → Shared → Prop} {s : Shared}
theorem drive_is (turns : Nat) (m : M) : Builtin.Re.reDrive (turns + 1) m = if (stepN 4 m).outcome.isSome = true then pure (stepN 4 m) else (do rule "sre.turn"; Builtin.Re.reDrive turns (stepN 4 m)) := by
  rw [← runFor_eq]; rfl
theorem ends_far {k : Nat} {m m' : M} (h2 : stepN k m = m') (h3 : m'.outcome.isSome = true) (hk : k ≤ 4) : stepN 4 m = m' := by
  have := stepN_add k (4 - k) m
  rw [h2, stepN_done h3, show k + (4 - k) = 4 by omega] at this
  exact this
theorem ends_near {k : Nat} {m m' : M} (h2 : stepN k m = m') (hk : 4 ≤ k) : stepN (k - 4) (stepN 4 m) = m' := by
  rw [← stepN_add, show 4 + (k - 4) = k by omega, h2]
theorem drive_go {m' : M} {Q : M → Shared → Prop} (hq : Q m' s) : ∀ (turns : Nat) (m : M), Ends (4 * turns) m m' → 0 < turns → wpAny (model prog w) A (Builtin.Re.reDrive turns m) Q E s := by
  intro turns
  induction turns with
  | zero => intro m _ h; exact absurd h (Nat.lt_irrefl _)
  | succ turns ih =>
    intro m h _
    obtain ⟨k, h1, h2, h3⟩ := h
    rw [drive_is]
    by_cases hk : k ≤ 4
    · have e := ends_far h2 h3 hk
      rw [if_pos (by rw [e]; exact h3), e]
      exact wpAny_pure hq
    · have e := ends_near h2 (by omega)
      by_cases h : (stepN 4 m).outcome.isSome = true
      · rw [if_pos h]
        rw [stepN_done h] at e
        rw [e]
        exact wpAny_pure hq
      · rw [if_neg h]
        exact wpAny_bind (wpAny_rule (ih _ ⟨k - 4, by omega, e, h3⟩ (by omega)))
theorem rules_loop {Q : Unit → Shared → Prop} (m : M) : ∀ (l : List Nat), Q () s → wpAny (model prog w) A (forIn l PUnit.unit fun i _ => if m.seen.has i = true then do rule (Sre.names.getD i ""); pure (ForInStep.yield PUnit.unit) else pure (ForInStep.yield PUnit.unit)) (fun _ => Q ()) E s
  | [], h => by rw [List.forIn_nil]; exact wpAny_pure h
  | i :: l, h => by
    rw [List.forIn_cons]
    refine wpAny_bind ?_
    split
    · exact wpAny_bind (wpAny_rule (wpAny_pure (rules_loop m l h)))
    · exact wpAny_pure (rules_loop m l h)
theorem run_found {n : Nat} {m m' : M} {Q : Option M → Shared → Prop} (h : Ends n m m') (hn : n ≤ 4 * 2 ^ 64) (ho : m'.outcome = some .matched) (hq : Q (some m') s) : wpAny (model prog w) A (Builtin.Re.reRunToEnd m) Q E s := by
  unfold Builtin.Re.reRunToEnd
  refine wpAny_bind (drive_go (m' := m') ?_ _ _ (h.le hn) (by decide))
  refine wpAny_bind (rules_loop (Q := fun _ s' => wpAny (model prog w) A _ Q E s') m' _ ?_)
  rw [ho]
  exact wpAny_pure hq
theorem run_none {n : Nat} {m m' : M} {Q : Option M → Shared → Prop} (h : Ends n m m') (hn : n ≤ 4 * 2 ^ 64) (ho : m'.outcome = some .failed) (hq : Q none s) : wpAny (model prog w) A (Builtin.Re.reRunToEnd m) Q E s := by
  unfold Builtin.Re.reRunToEnd
  refine wpAny_bind (drive_go (m' := m') ?_ _ _ (h.le hn) (by decide))
  refine wpAny_bind (rules_loop (Q := fun _ s' => wpAny (model prog w) A _ Q E s') m' _ ?_)
  rw [ho]
  exact wpAny_pure hq
end
end Mine
end
/-! RPat1 -/
section
open PySem PySem.W PyProof.Rows
set_option linter.unusedVariables false
namespace Mine
open PySem.Sre
def code1 : Array Nat := #[14, 4, 0, 1, 1, 6, 1, 16, 46, 1]
def fr1 (s : Nat) (first : Bool) : Sre.Frame := { wait := .nextStart, pc := 5, pos := s, outermost := first }
def A1 (text : Array Nat) (s : Nat) (first : Bool) (seen : Sre.Seen) (pc pos handed : Nat) : M :=
  { code := code1, text, lim := text.size, start := s, lastStart := text.size, pc, pos, handed, outermost := first, marks := #[], frames := [fr1 s first], weight := 1, seen }
def Z1 (text : Array Nat) (s : Nat) (first : Bool) (seen : Sre.Seen) (handed : Nat) (o : Bool) : M :=
  { code := code1, text, lim := text.size, start := s, lastStart := text.size, pc := 5, pos := s, handed, outermost := first, marks := #[], frames := [], weight := 0, seen, answer := some o, outcome := some (if o then .matched else .failed) }
def hit1 (text : Array Nat) (s : Nat) : Bool := (s == 0 || text.getD (s - 1) 0 == 10) && (decide (s < text.size) && text.getD s 0 == 46)
theorem a1_at (text : Array Nat) (s : Nat) (first : Bool) (seen : Sre.Seen) : (A1 text s first seen 5 s s).step =
    if (s == 0 || text.getD (s - 1) 0 == 10) = true then A1 text s first ((seen.add 6).add 44) 7 s s else { A1 text s first ((seen.add 6).add 44) 5 s s with answer := some false } := by rfl
def says (m : M) (b : Bool) (seen : Sre.Seen) : M := { m with seen, answer := some b }
theorem step_lit (m : M) (h0 : m.outcome = none) (ha : m.answer = none) (hpc : m.pc < m.code.size) (hw : m.code.getD m.pc 0 = 16) :
    m.step = if m.lim ≤ m.pos then says m false (m.seen.add 16) else if m.text.getD m.pos 0 = m.code.getD (m.pc + 1) 0 then { m with seen := m.seen.add 16, pc := m.pc + 2, pos := m.pos + 1 } else says m false (m.seen.add 16) := by
  have hw0 : m.word 0 = 16 := hw
  have hac : ∀ c sn, accepts m.code m.pc c sn = .ok (c == m.code.getD (m.pc + 1) 0, sn) := by
    intro c sn
    unfold accepts
    rw [hw]
    rfl
  have hiw : itemWidth m.code m.pc = 2 := by unfold itemWidth; rw [hw]; rfl
  unfold M.step
  rw [h0, ha]
  simp only [Option.isSome_none, Bool.false_eq_true, if_false, hpc, if_true]
  unfold M.exec
  rw [hw0]
  show (if m.pos ≥ m.lim then _ else _) = _
  by_cases h1 : m.lim ≤ m.pos
  · rw [if_pos h1, if_pos h1]; rfl
  · rw [if_neg h1, if_neg h1]
    show (match accepts m.code m.pc (m.text.getD m.pos 0) (m.seen.add 16) with | .error why => _ | .ok (false, seen) => _ | .ok (true, seen) => _) = _
    rw [hac]
    by_cases h2 : m.text.getD m.pos 0 = m.code.getD (m.pc + 1) 0
    · rw [if_pos h2, beq_iff_eq.mpr h2]
      show ({ m with seen := m.seen.add 16, pc := m.pc + itemWidth m.code m.pc, pos := m.pos + 1 } : M) = _
      rw [hiw, h0, ha]
    · rw [if_neg h2, beq_eq_false_iff_ne.mpr h2]
      rfl
theorem a1_lit (text : Array Nat) (s : Nat) (first : Bool) (seen : Sre.Seen) : (A1 text s first seen 7 s s).step = if text.size ≤ s then says (A1 text s first seen 7 s s) false (seen.add 16) else if text.getD s 0 = 46 then A1 text s first (seen.add 16) 9 (s + 1) s else says (A1 text s first seen 7 s s) false (seen.add 16) :=
  step_lit (A1 text s first seen 7 s s) rfl rfl (by show 7 < 10; decide) rfl
theorem a1_suc (text : Array Nat) (s p : Nat) (first : Bool) (seen : Sre.Seen) : (A1 text s first seen 9 p s).step = says (A1 text s first seen 9 p p) true (seen.add 1) := by
  cases first <;> rfl
theorem a1_yes (text : Array Nat) (s pc p h : Nat) (first : Bool) (seen seen' : Sre.Seen) : (says (A1 text s first seen pc p h) true seen').step.step = Z1 text s first seen' h true := by rfl
theorem a1_no_end (text : Array Nat) (s pc p h : Nat) (first : Bool) (seen seen' : Sre.Seen) (hs : text.size ≤ s) : (says (A1 text s first seen pc p h) false seen').step.step = Z1 text s first seen' h false := by
  have e : (says (A1 text s first seen pc p h) false seen').step = if s < text.size then A1 text (s + 1) false seen' 5 (s + 1) (s + 1) else ({ Z1 text s first seen' h false with outcome := none }) := by rfl
  rw [e, if_neg (by omega)]
  rfl
theorem a1_no (text : Array Nat) (s pc p h : Nat) (first : Bool) (seen seen' : Sre.Seen) (hs : s < text.size) : (says (A1 text s first seen pc p h) false seen').step = A1 text (s + 1) false seen' 5 (s + 1) (s + 1) := by
  have e : (says (A1 text s first seen pc p h) false seen').step = if s < text.size then A1 text (s + 1) false seen' 5 (s + 1) (s + 1) else ({ Z1 text s first seen' h false with outcome := none }) := by rfl
  rw [e, if_pos hs]
/-- where a line begins with a dot -/
abbrev dot1 (text : Array Nat) (s : Nat) : Prop := s < text.size ∧ (s = 0 ∨ text.getD (s - 1) 0 = 10) ∧ text.getD s 0 = 46
theorem a1_turn (text : Array Nat) (s : Nat) (first : Bool) (seen : Sre.Seen) : 
    (dot1 text s → ∃ seen', Ends 5 (A1 text s first seen 5 s s) (Z1 text s first seen' (s + 1) true)) ∧
    (¬ dot1 text s → ∃ k seen' pc p h sn, k ≤ 2 ∧ stepN k (A1 text s first seen 5 s s) = says (A1 text s first seen' pc p h) false sn) := by
  refine ⟨fun ⟨h1, h2, h3⟩ => ?_, fun h => ?_⟩
  · refine ⟨_, Ends.step' (m₁ := A1 text s first ((seen.add 6).add 44) 7 s s) ?_ (Ends.step' (m₁ := A1 text s first (((seen.add 6).add 44).add 16) 9 (s + 1) s) ?_ (Ends.step' (a1_suc ..) (Ends.step (Ends.step (by rw [a1_yes]; exact Ends.here rfl)))))⟩
    · rw [a1_at, if_pos]
      rcases h2 with h2 | h2
      · simp [h2]
      · simp [h2]
    · rw [a1_lit, if_neg (by omega), if_pos h3]
  · by_cases h2 : (s = 0 ∨ text.getD (s - 1) 0 = 10)
    · refine ⟨2, (seen.add 6).add 44, 7, s, s, ((seen.add 6).add 44).add 16, Nat.le_refl _, ?_⟩
      show (A1 text s first seen 5 s s).step.step = _
      rw [a1_at, if_pos (by rcases h2 with h2 | h2 <;> simp [h2]), a1_lit]
      split
      · rfl
      · rw [if_neg]
        intro h3
        exact h ⟨by omega, h2, h3⟩
    · refine ⟨1, seen, 5, s, s, (seen.add 6).add 44, by decide, ?_⟩
      show (A1 text s first seen 5 s s).step = says (A1 text s first seen 5 s s) false ((seen.add 6).add 44)
      rw [a1_at, if_neg (by simpa using h2)]
      rfl
/-- the first place, from s on -/
theorem a1_search (text : Array Nat) : ∀ (n s : Nat) (first : Bool) (seen : Sre.Seen), text.size + 1 ≤ s + n → s ≤ text.size →
    (∃ t seen' first', s ≤ t ∧ dot1 text t ∧ (∀ u, s ≤ u → u < t → ¬ dot1 text u) ∧ Ends (5 * n) (A1 text s first seen 5 s s) (Z1 text t first' seen' (t + 1) true)) ∨
    ((∀ u, s ≤ u → ¬ dot1 text u) ∧ ∃ t h seen' first', Ends (5 * n) (A1 text s first seen 5 s s) (Z1 text t first' seen' h false))
  | 0, s, first, seen, h, h' => by omega
  | n + 1, s, first, seen, h, h' => by
    by_cases hd : dot1 text s
    · obtain ⟨seen', he⟩ := (a1_turn text s first seen).1 hd
      exact .inl ⟨s, seen', first, Nat.le_refl _, hd, fun u h1 h2 => by omega, he.le (by omega)⟩
    · obtain ⟨k, seen', pc, p, hh, sn, hk, hst⟩ := (a1_turn text s first seen).2 hd
      by_cases hs : s < text.size
      · have e : stepN (k + 1) (A1 text s first seen 5 s s) = A1 text (s + 1) false sn 5 (s + 1) (s + 1) := by rw [stepN_add, hst]; exact a1_no (hs := hs) ..
        have ext : ∀ {m'}, Ends (5 * n) (A1 text (s + 1) false sn 5 (s + 1) (s + 1)) m' → Ends (5 * (n + 1)) (A1 text s first seen 5 s s) m' := by
          rintro m' ⟨j, j1, j2, j3⟩
          exact ⟨k + 1 + j, by omega, by rw [stepN_add, e, j2], j3⟩
        rcases a1_search text n (s + 1) false sn (by omega) (by omega) with ⟨t, seen', f', h1, h2, h3, h4⟩ | ⟨h1, t, h2, seen', f', h3⟩
        · refine .inl ⟨t, seen', f', by omega, h2, fun u h5 h6 => ?_, ext h4⟩
          by_cases q : u = s
          · subst q; exact hd
          · exact h3 u (by omega) h6
        · refine .inr ⟨fun u h5 => ?_, t, h2, seen', f', ext h3⟩
          by_cases q : u = s
          · subst q; exact hd
          · exact h1 u (by omega)
      · refine .inr ⟨fun u h5 hu => by have := hu.1; omega, s, hh, sn, first, k + 2, by omega, ?_, rfl⟩
        rw [stepN_add, hst]
        exact a1_no_end (hs := by omega) ..
theorem search1 (text : Array Nat) (s : Nat) (hs : s ≤ text.size) :
    (∃ t m', s ≤ t ∧ dot1 text t ∧ (∀ u, s ≤ u → u < t → ¬ dot1 text u) ∧ Ends (5 * (text.size + 1)) (Sre.forSearch code1 text 0 s text.size false) m' ∧ m'.outcome = some .matched ∧ m'.start = t ∧ m'.handed = t + 1) ∨
    ((∀ u, s ≤ u → ¬ dot1 text u) ∧ ∃ m', Ends (5 * (text.size + 1)) (Sre.forSearch code1 text 0 s text.size false) m' ∧ m'.outcome = some .failed) := by
  have e : Sre.forSearch code1 text 0 s text.size false = if (decide (s > text.size) || decide (text.size - s < 1)) = true then says { A1 text s true (({} : Sre.Seen).add 14) 5 s s with lastStart := 0, frames := [], weight := 0 } false (({} : Sre.Seen).add 14) else A1 text s true (({} : Sre.Seen).add 14) 5 s s := by rfl
  by_cases h : s < text.size
  · rw [e, if_neg (by simp; omega)]
    rcases a1_search text (text.size + 1) s true (({} : Sre.Seen).add 14) (by omega) hs with ⟨t, seen', f', h1, h2, h3, h4⟩ | ⟨h1, t, h2, seen', f', h3⟩
    · exact .inl ⟨t, _, h1, h2, h3, h4, rfl, rfl, rfl⟩
    · exact .inr ⟨h1, _, h3, rfl⟩
  · rw [e, if_pos (by simp; omega)]
    exact .inr ⟨fun u h5 hu => by have := hu.1; omega, _, ⟨1, by omega, rfl, rfl⟩, rfl⟩
end Mine
end
/-! RPat2 -/
section
open PySem PySem.W PyProof.Rows
set_option linter.unusedVariables false
namespace Mine
open PySem.Sre
def code2 : Array Nat := #[14, 9, 4, 1, 2, 16, 10, 16, 13, 0, 7, 7, 16, 13, 16, 10, 15, 18, 5, 16, 10, 15, 13, 11, 16, 13, 5, 5, 0, 16, 10, 1, 15, 2, 0, 1]
def fr2 (s : Nat) (first : Bool) : Sre.Frame := { wait := .nextStart, pc := 10, pos := s, outermost := first }
def nb2 (p s : Nat) (first : Bool) : Sre.Frame := { wait := .nextBranch, pc := p, pos := s, outermost := first }
def ln2 (s : Nat) (first : Bool) : Sre.Frame := { wait := .lookNot, pc := 26, pos := s, outermost := first }
def B2 (text : Array Nat) (s : Nat) (seen : Sre.Seen) (pc pos handed : Nat) (fs : List Sre.Frame) (w : Nat) (outer : Bool) : M :=
  { code := code2, text, lim := text.size, start := s, lastStart := text.size, pc, pos, handed, outermost := outer, marks := #[], frames := fs, weight := w, seen }
variable (text : Array Nat) (s : Nat)
theorem b2_branch (seen : Sre.Seen) : (B2 text s seen 10 s s [fr2 s true] 1 true).step = B2 text s (seen.add 7) 12 s s [nb2 11 s true, fr2 s true] 2 true := by rfl
theorem b2_lit (seen : Sre.Seen) (pc pos h : Nat) (fs : List Sre.Frame) (w : Nat) (o : Bool) (hpc : pc < 36) (hw : code2.getD pc 0 = 16) : (B2 text s seen pc pos h fs w o).step = if text.size ≤ pos then says (B2 text s seen pc pos h fs w o) false (seen.add 16) else if text.getD pos 0 = code2.getD (pc + 1) 0 then B2 text s (seen.add 16) (pc + 2) (pos + 1) h fs w o else says (B2 text s seen pc pos h fs w o) false (seen.add 16) :=
  step_lit (B2 text s seen pc pos h fs w o) rfl rfl hpc hw
theorem b2_alt1 (seen sn : Sre.Seen) (pc pos h : Nat) : (says (B2 text s seen pc pos h [nb2 11 s true, fr2 s true] 2 true) false sn).step = B2 text s sn 19 s s [nb2 18 s true, fr2 s true] 2 true := by rfl
theorem b2_alt2 (seen sn : Sre.Seen) (pc pos h : Nat) : (says (B2 text s seen pc pos h [nb2 18 s true, fr2 s true] 2 true) false sn).step = B2 text s sn 24 s s [nb2 23 s true, fr2 s true] 2 true := by rfl
theorem b2_jump1 (seen : Sre.Seen) (pos h p : Nat) : (B2 text s seen 16 pos h [nb2 p s true, fr2 s true] 2 true).step = B2 text s (seen.add 15) 35 pos h [nb2 p s true, fr2 s true] 2 true := by rfl
theorem b2_jump2 (seen : Sre.Seen) (pos h p : Nat) : (B2 text s seen 21 pos h [nb2 p s true, fr2 s true] 2 true).step = B2 text s (seen.add 15) 35 pos h [nb2 p s true, fr2 s true] 2 true := by rfl
theorem b2_jump3 (seen : Sre.Seen) (pos h p : Nat) : (B2 text s seen 32 pos h [nb2 p s true, fr2 s true] 2 true).step = B2 text s (seen.add 15) 35 pos h [nb2 p s true, fr2 s true] 2 true := by rfl
theorem b2_suc (seen : Sre.Seen) (pos h p : Nat) : (B2 text s seen 35 pos h [nb2 p s true, fr2 s true] 2 true).step = says (B2 text s seen 35 pos pos [nb2 p s true, fr2 s true] 2 true) true (seen.add 1) := by rfl
theorem b2_not (seen : Sre.Seen) (pos h : Nat) : (B2 text s seen 26 pos h [nb2 23 s true, fr2 s true] 2 true).step = B2 text s (seen.add 5) 29 pos pos [ln2 pos true, nb2 23 s true, fr2 s true] 3 false := by rfl
theorem b2_noback (seen sn : Sre.Seen) (pc p pos h : Nat) : (says (B2 text s seen pc p h [ln2 pos true, nb2 23 s true, fr2 s true] 3 false) false sn).step = B2 text s sn 32 pos h [nb2 23 s true, fr2 s true] 2 true := by rfl
def Z2 (seen : Sre.Seen) (handed : Nat) : M :=
  { code := code2, text, lim := text.size, start := s, lastStart := text.size, pc := 10, pos := s, handed, outermost := true, marks := #[], frames := [], weight := 0, seen, answer := some true, outcome := some .matched }
theorem b2_end (seen : Sre.Seen) (pos p : Nat) (sn : Sre.Seen) : (says (B2 text s seen 35 pos pos [nb2 p s true, fr2 s true] 2 true) true sn).step.step.step = Z2 text s sn pos := by rfl
theorem b2_fin (seen : Sre.Seen) (pos h p : Nat) : ∃ sn, Ends 4 (B2 text s seen 35 pos h [nb2 p s true, fr2 s true] 2 true) (Z2 text s sn pos) := ⟨_, Ends.step' (b2_suc ..) (Ends.step (Ends.step (Ends.step (by rw [b2_end]; exact Ends.here rfl))))⟩
def eolW : Nat := if text.getD s 0 = 13 ∧ s + 1 < text.size ∧ text.getD (s + 1) 0 = 10 then 2 else 1
abbrev eol2 : Prop := s < text.size ∧ (text.getD s 0 = 10 ∨ text.getD s 0 = 13)
theorem b2_at (seen : Sre.Seen) (h : eol2 text s) : ∃ sn, Ends 20 (B2 text s seen 10 s s [fr2 s true] 1 true) (Z2 text s sn (s + eolW text s)) := by
  obtain ⟨hs, hc⟩ := h
  have hs' : ¬ text.size ≤ s := by omega
  have lit := b2_lit text s
  rcases hc with hc | hc
  · have hw : eolW text s = 1 := by unfold eolW; rw [if_neg (by omega)]
    rw [hw]
    obtain ⟨sn, hf⟩ := b2_fin text s (((((seen.add 7).add 16).add 16)).add 15) (s + 1) s 18
    refine ⟨sn, Ends.le (n := 9) (Ends.step' (b2_branch ..) (Ends.step' (m₁ := says (B2 text s (seen.add 7) 12 s s [nb2 11 s true, fr2 s true] 2 true) false ((seen.add 7).add 16)) ?_ (Ends.step' (b2_alt1 ..) (Ends.step' (m₁ := B2 text s (((seen.add 7).add 16).add 16) 21 (s + 1) s [nb2 18 s true, fr2 s true] 2 true) ?_ (Ends.step' (b2_jump2 ..) hf))))) (by omega)⟩
    · rw [lit _ 12 _ _ _ _ _ (by decide) rfl, if_neg hs', if_neg (by rw [hc]; decide)]
    · rw [lit _ 19 _ _ _ _ _ (by decide) rfl, if_neg hs', if_pos (by rw [hc]; rfl)]
  · by_cases hn : s + 1 < text.size ∧ text.getD (s + 1) 0 = 10
    · have hw : eolW text s = 2 := by unfold eolW; rw [if_pos ⟨hc, hn⟩]
      rw [hw]
      obtain ⟨sn, hf⟩ := b2_fin text s (((((seen.add 7).add 16).add 16)).add 15) (s + 2) s 11
      refine ⟨sn, Ends.le (n := 8) (Ends.step' (b2_branch ..) (Ends.step' (m₁ := B2 text s ((seen.add 7).add 16) 14 (s + 1) s [nb2 11 s true, fr2 s true] 2 true) ?_ (Ends.step' (m₁ := B2 text s (((seen.add 7).add 16).add 16) 16 (s + 2) s [nb2 11 s true, fr2 s true] 2 true) ?_ (Ends.step' (b2_jump1 ..) hf)))) (by omega)⟩
      · rw [lit _ 12 _ _ _ _ _ (by decide) rfl, if_neg hs', if_pos (by rw [hc]; rfl)]
      · rw [lit _ 14 _ _ _ _ _ (by decide) rfl, if_neg (by omega), if_pos (by rw [hn.2]; rfl)]
    · have hw : eolW text s = 1 := by unfold eolW; rw [if_neg (fun q => hn q.2)]
      rw [hw]
      have no : ∀ (sn : Sre.Seen) pc fs w o h, pc < 36 → code2.getD pc 0 = 16 → code2.getD (pc + 1) 0 = 10 → (B2 text s sn pc (s + 1) h fs w o).step = says (B2 text s sn pc (s + 1) h fs w o) false (sn.add 16) := by
        intro sn pc fs w o h h1 h2 h3
        rw [lit _ pc _ _ _ _ _ h1 h2, h3]
        split
        · rfl
        · rw [if_neg (fun q => hn ⟨by omega, q⟩)]
      refine ⟨_, Ends.le (n := 15) (Ends.step' (b2_branch ..) (Ends.step' (m₁ := B2 text s ((seen.add 7).add 16) 14 (s + 1) s [nb2 11 s true, fr2 s true] 2 true) ?_ (Ends.step' (no _ 14 _ _ _ _ (by decide) rfl rfl) (Ends.step' (b2_alt1 ..) (Ends.step' (m₁ := says (B2 text s (((seen.add 7).add 16).add 16) 19 s s [nb2 18 s true, fr2 s true] 2 true) false ((((seen.add 7).add 16).add 16).add 16)) ?_ (Ends.step' (b2_alt2 ..)
        (Ends.step' (m₁ := B2 text s (((((seen.add 7).add 16).add 16).add 16).add 16) 26 (s + 1) s [nb2 23 s true, fr2 s true] 2 true) ?_ (Ends.step' (b2_not ..) (Ends.step' (no _ 29 _ _ _ _ (by decide) rfl rfl) (Ends.step' (b2_noback ..) (Ends.step' (b2_jump3 ..) (b2_fin ..).choose_spec))))))))))) (by omega)⟩
      · rw [lit _ 12 _ _ _ _ _ (by decide) rfl, if_neg hs', if_pos (by rw [hc]; rfl)]
      · rw [lit _ 19 _ _ _ _ _ (by decide) rfl, if_neg hs', if_neg (by rw [hc]; decide)]
      · rw [lit _ 24 _ _ _ _ _ (by decide) rfl, if_neg hs', if_pos (by rw [hc]; rfl)]
theorem inset2 (c : Nat) (seen : Sre.Seen) : inSet code2 c 36 5 true seen = if (c == 10) = true then .ok (true, seen.add 16) else if (c == 13) = true then .ok (true, (seen.add 16).add 16) else .ok (false, ((seen.add 16).add 16).add 0) := by rfl
theorem admit2 (m : M) (hm : m.code = code2) (ht : m.text = text) (hl : m.lim = text.size) : ∀ (n s : Nat) (seen : Sre.Seen), text.size + 1 ≤ s + n →
    (∃ t sn, s ≤ t ∧ eol2 text t ∧ (∀ u, s ≤ u → u < t → ¬ eol2 text u) ∧ M.admitted m n s seen = .ok (some t, sn)) ∨ ((∀ u, s ≤ u → ¬ eol2 text u) ∧ ∃ sn, M.admitted m n s seen = .ok (none, sn))
  | 0, s, seen, h => .inr ⟨fun u hu he => by have := he.1; omega, seen, rfl⟩
  | n + 1, s, seen, h => by
    unfold M.admitted
    by_cases hs : s < text.size
    · rw [if_neg (by omega), hm, ht, show code2.size = 36 from rfl, inset2]
      by_cases h1 : text.getD s 0 = 10
      · rw [if_pos (by simpa using h1)]
        exact .inl ⟨s, _, Nat.le_refl _, ⟨hs, .inl h1⟩, fun u h2 h3 => by omega, rfl⟩
      · rw [if_neg (by simpa using h1)]
        by_cases h2 : text.getD s 0 = 13
        · rw [if_pos (by simpa using h2)]
          exact .inl ⟨s, _, Nat.le_refl _, ⟨hs, .inr h2⟩, fun u h2 h3 => by omega, rfl⟩
        · rw [if_neg (by simpa using h2)]
          have hno : ¬ eol2 text s := fun q => q.2.elim h1 h2
          rcases admit2 m hm ht hl n (s + 1) (((seen.add 16).add 16).add 0) (by omega) with ⟨t, sn, k1, k2, k3, k4⟩ | ⟨k1, sn, k2⟩
          · refine .inl ⟨t, sn, by omega, k2, fun u h5 h6 => ?_, k4⟩
            by_cases q : u = s
            · subst q; exact hno
            · exact k3 u (by omega) h6
          · refine .inr ⟨fun u h5 => ?_, sn, k2⟩
            by_cases q : u = s
            · subst q; exact hno
            · exact k1 u (by omega)
    · rw [if_pos (by omega)]
      exact .inr ⟨fun u hu he => by have := he.1; omega, _, rfl⟩
def F2 : M := { code := code2, text, lim := text.size, start := s, lastStart := text.size, pc := 10, pos := s, handed := s, marks := #[], seen := ({} : Sre.Seen).add 14 }
theorem from2 (first : Bool) : (F2 text s).attemptFrom s first = (match M.admitted (F2 text s) (text.size + 1 - s) s (F2 text s).seen with
  | .ok (some t, sn) => B2 text t sn 10 t t [fr2 t first] 1 first
  | .ok (none, sn) => says (F2 text s) false sn
  | .error why => (F2 text s).stick why) := by rfl
theorem search2 (hs : s ≤ text.size) :
    (∃ t m', s ≤ t ∧ eol2 text t ∧ (∀ u, s ≤ u → u < t → ¬ eol2 text u) ∧ Ends 20 (Sre.forSearch code2 text 0 s text.size false) m' ∧ m'.outcome = some .matched ∧ m'.start = t ∧ m'.handed = t + eolW text t) ∨
    ((∀ u, s ≤ u → ¬ eol2 text u) ∧ ∃ m', Ends 20 (Sre.forSearch code2 text 0 s text.size false) m' ∧ m'.outcome = some .failed) := by
  have e : Sre.forSearch code2 text 0 s text.size false = if (decide (s > text.size) || decide (text.size - s < 1)) = true then says { F2 text s with lastStart := 0 } false (({} : Sre.Seen).add 14) else (F2 text s).attemptFrom s true := by rfl
  by_cases h : s < text.size
  · rw [e, if_neg (by simp; omega), from2]
    rcases admit2 text (F2 text s) rfl rfl rfl (text.size + 1 - s) s (F2 text s).seen (by omega) with ⟨t, sn, h1, h2, h3, h4⟩ | ⟨h1, sn, h2⟩
    · rw [h4]
      obtain ⟨sn', hE⟩ := b2_at text t sn h2
      exact .inl ⟨t, _, h1, h2, h3, hE, rfl, rfl, rfl⟩
    · rw [h2]
      exact .inr ⟨h1, _, ⟨1, by omega, rfl, rfl⟩, rfl⟩
  · rw [e, if_pos (by simp; omega)]
    exact .inr ⟨fun u h5 hu => by have := hu.1; omega, _, ⟨1, by omega, rfl, rfl⟩, rfl⟩
end Mine
end
/-! RFacts -/
section
open PySem PySem.W PyProof.Rows
set_option linter.unusedVariables false
set_option maxRecDepth 100000
namespace Mine
theorem pa_pat : PlainAttrs "re.Pattern" :=
  ⟨⟨"object.__getattribute__", by rw [typeLookup_type, builtinLookup_eq_fast]; kernel_rfl, by decide +kernel⟩, by rw [typeLookup_type, builtinLookup_eq_fast]; kernel_rfl⟩
theorem slot_sub : Slot "re.Pattern" "sub" "re.Pattern.sub" :=
  .of (owner := "re.Pattern") (n := "sub") (by rw [typeLookup_type, builtinLookup_eq_fast]; kernel_rfl) (by decide +kernel) (by decide +kernel) (by decide +kernel)
    (by first | exact .inl (by decide +kernel) | exact .inr (by decide +kernel)) (by rw [isSubtype_type]; kernel_rfl)
theorem type_sub : typeOf (.builtin "re.Pattern.sub") = pure (.type "method_descriptor") := by show builtinType _ = _; rw [builtinType_eq_fast]; kernel_rfl
theorem entry_sub : entryFor table "re.Pattern.sub" = some Builtin.«re.Pattern.sub» := entryFor_of_tree (by kernel_rfl)
theorem entry_subl : entryFor table "re.Pattern.sub.loop" = some Builtin.«re.Pattern.sub.loop» := entryFor_of_tree (by kernel_rfl)
theorem args_sub (a b c : Value) : argsOk "re.Pattern.sub" ⟨[a, b, c], []⟩ := by
  unfold argsOk; kernel_rfl
theorem plain_subl : plainId "re.Pattern.sub.loop" = true := by decide +kernel
theorem kind_fsum : builtinKind "math.fsum" = none := by decide +kernel
theorem plain_fsum : plainId "math.fsum" = true := by decide +kernel
theorem plain_fsuml : plainId "math.fsum.loop" = true := by decide +kernel
theorem entry_fsum : entryFor table "math.fsum" = some Builtin.«math.fsum» := entryFor_of_tree (by kernel_rfl)
theorem entry_fsuml : entryFor table "math.fsum.loop" = some Builtin.«math.fsum.loop» := entryFor_of_tree (by kernel_rfl)
theorem args_fsum (a : Value) : argsOk "math.fsum" ⟨[a], []⟩ := by unfold argsOk; kernel_rfl
theorem kind_sp : builtinKind "math.sumprod" = none := by decide +kernel
theorem plain_sp : plainId "math.sumprod" = true := by decide +kernel
theorem plain_spl : plainId "math.sumprod.loop" = true := by decide +kernel
theorem entry_sp : entryFor table "math.sumprod" = some Builtin.«math.sumprod» := entryFor_of_tree (by kernel_rfl)
theorem entry_spl : entryFor table "math.sumprod.loop" = some Builtin.«math.sumprod.loop» := entryFor_of_tree (by kernel_rfl)
theorem args_sp (a b : Value) : argsOk "math.sumprod" ⟨[a, b], []⟩ := by unfold argsOk; kernel_rfl
end Mine
end
/-! RSub -/
section
open PySem PySem.W PyProof.Rows
set_option linter.unusedVariables false
set_option maxRecDepth 10000
namespace Mine
open PySem.Builtin.Re
/-- a pattern in the heap -/
def PatAt (h : Heap) (a : Addr) (code : Array Nat) : Prop :=
  ∃ (fs : Array Value) (T : Addr) (ws : Array Value) (n : Nat), h.get? a = some { cls := .type "re.Pattern", data := .fields fs } ∧ fs.getD 5 .none = .ref T ∧ reRawNat (fs.getD 2 .none) = 0 ∧ reRawNat (fs.getD 6 .none) = 0 ∧
    h.get? T = some { cls := .type "tuple", data := .seq ws n } ∧ (ws.map reRawOf).map (·.toNat) = code
theorem PatAt.kk {h h' : Heap} {a : Addr} {code : Array Nat} (x : PatAt h a code) (k : KK h h') : PatAt h' a code := by
  obtain ⟨fs, T, ws, n, h1, h2, h3, h4, h5, h6⟩ := x
  exact ⟨fs, T, ws, n, k _ _ (NT.cls nofun) h1, h2, h3, h4, k _ _ (NT.cls nofun) h5, h6⟩
section
variable {prog : Program} {w : World} {A : Around} {E : Value → Shared → Prop} {s : Shared}
theorem whole_target {a : Addr} {code : Array Nat} {x : Str} {t : Tok} {Q : ReTarget → Shared → Prop} (p : PatAt s.heap a code)
    (h : Q { pattern := .ref a, string := .str x t, code, text := x.cps, kind := 0, groups := 0, pos := 0, lim := x.cps.size } s) : wpAny (model prog w) A (reWholeTarget (.ref a) (.str x t)) Q E s := by
  obtain ⟨fs, T, ws, n, h1, h2, h3, h4, h5, h6⟩ := p
  unfold reWholeTarget
  refine wpAny_bind (wpAny_fieldsOf h1 rfl ?_)
  refine wpAny_bind (wpAny_of_eq (a := (x.cps, 0)) rfl ?_)
  dsimp only
  rw [h4]
  simp only [beq_self_eq_true]
  rw [if_neg (by decide)]
  rw [if_neg (by decide)]
  refine wpAny_bind (wpAny_of_eq (a := ()) rfl ?_)
  rw [h2]
  unfold reRawItems
  refine wpAny_bind (wpAny_bind (wpAny_seqItems h5 rfl (wpAny_pure (wpAny_pure ?_))))
  rw [h3]
  simp only [Option.getD_some]
  rw [h6]
  exact h
end
/-- what a pattern finds in a text -/
structure Finder (code text : Array Nat) (find : Nat → Option (Nat × Nat)) : Prop where
  hit : ∀ s t e, s ≤ text.size → find s = some (t, e) → ∃ n m', n ≤ 4 * 2 ^ 64 ∧ Ends n (Sre.forSearch code text 0 s text.size false) m' ∧ m'.outcome = some .matched ∧ m'.start = t ∧ m'.handed = e
  miss : ∀ s, s ≤ text.size → find s = none → ∃ n m', n ≤ 4 * 2 ^ 64 ∧ Ends n (Sre.forSearch code text 0 s text.size false) m' ∧ m'.outcome = some .failed
  go : ∀ s t e, find s = some (t, e) → s ≤ t ∧ t < e ∧ e ≤ text.size
def cut (text : Array Nat) (b e : Nat) : Str := ⟨text.extract b e⟩
/-- the pieces of a text with its finds replaced -/
def subP (text : Array Nat) (repl : Str) (find : Nat → Option (Nat × Nat)) : Nat → Nat → List Str
  | 0, _ => []
  | n + 1, s => match find s with
    | none => if s < text.size then [cut text s text.size] else []
    | some (t, e) => (if s < t then [cut text s t] else []) ++ [repl] ++ subP text repl find n e
theorem subP_len {text : Array Nat} {repl : Str} {find : Nat → Option (Nat × Nat)} : ∀ n s, (subP text repl find n s).length ≤ 2 * n + 1
  | 0, s => by simp [subP]
  | n + 1, s => by
    unfold subP
    split
    · split <;> simp
    · have := subP_len (text := text) (repl := repl) (find := find) n
      rename_i t e _
      have := this e
      split <;> simp <;> omega
section
variable {c : Cx} {A : Around}
theorem pl_push {s : Shared} {L : Addr} {vs : Array Value} {v : Value} {E : Value → Shared → Prop} {Q : Unit → Shared → Prop} (hl : s.heap.PlainList L vs) (hz : vs.size ≤ sizeLine)
    (h : ∀ h', h'.PlainList L (vs.push v) → Heap.SameBut L s.heap h' → Q () { s with heap := h' }) : wpAny (model c.prog c.w) A (updateSeq L (·.push v)) Q E s := by
  obtain ⟨n, ho⟩ := hl
  refine wpAny_updateSeq ho rfl (h _ ⟨n + 1, ?_⟩ (Heap.SameBut.update ..)) hz (by simp; omega)
  rw [Heap.get?_update_self _ ho (by rw [Obj.mapSeq_push_plain]; rfl), Obj.mapSeq_push_plain]
/-- what stands while the pieces are laid -/
structure Lay (c : Cx) (h₀ : Heap) (L : Addr) (s : Shared) (ps : List Str) : Prop where
  g : G c s
  kk : KK h₀ s.heap
  fr : h₀.get? L = none
  old : c.h₀.get? L = none
  nav : ¬ c.av L
  list : ∃ vs, s.heap.PlainList L vs ∧ RpL c.av s.heap vs.toList (ps.map .str)
theorem rpl_strs {X : Addr → Prop} {h h' : Heap} : ∀ {ss : List Str} {vs : List Value}, RpL X h vs (ss.map .str) → RpL X h' vs (ss.map .str)
  | [], vs, r => by simpa only [List.map_nil, RpL] using r
  | x :: ss, vs, r => by
    simp only [List.map_cons, RpL] at r ⊢
    obtain ⟨v, q, e, h1, h2⟩ := r
    exact ⟨v, q, e, rp_str.mpr (rp_str.mp h1), rpl_strs h2⟩
theorem Lay.push {h₀ : Heap} {L : Addr} {s : Shared} {ps : List Str} {x : Str} {t : Tok} {E : Value → Shared → Prop} {Q : Unit → Shared → Prop} (O : c.Ok) (l : Lay c h₀ L s ps) (hz : ps.length < sizeLine)
    (h : ∀ s', Lay c h₀ L s' (ps ++ [x]) → Q () s') : wpAny (model c.prog c.w) A (updateSeq L (·.push (.str x t))) Q E s := by
  obtain ⟨vs, hl, r⟩ := l.list
  have hlen := r.length
  simp only [Array.length_toList, List.length_map] at hlen
  refine pl_push hl (by omega) fun h' hl' hs' => h _ ⟨?_, ?_, l.fr, l.old, l.nav, _, hl', ?_⟩
  · exact l.g.same O l.old hs' (.inl l.nav)
  · intro b o n e
    exact hs'.extBut b o (by rintro rfl; rw [l.fr] at e; cases e) (l.kk b o n e)
  · have := rpl_strs (ss := ps ++ [x]) (h' := h') (by rw [List.map_append]; exact r.append (RpL.one (X := c.av) (v := .str x t) (rp_str.mpr ⟨t, rfl⟩)))
    simpa using this
theorem Lay.tok {h₀ : Heap} {L : Addr} {s : Shared} {ps : List Str} {t : Nat} (l : Lay c h₀ L s ps) : Lay c h₀ L { s with toks := t } ps := ⟨l.g.tok, l.kk, l.fr, l.old, l.nav, l.list⟩
theorem cut_len (text : Array Nat) (b e : Nat) : (cut text b e).length ≤ text.size := by
  show (text.extract b e).size ≤ _
  simp; omega
theorem lay_cut {α : Type} {rest : Sem α} {h₀ : Heap} {L : Addr} {s : Shared} {ps : List Str} {text : Array Nat} {b e : Nat} {E : Value → Shared → Prop} {Q : α → Shared → Prop} (O : c.Ok) (l : Lay c h₀ L s ps) (hz : ps.length < sizeLine) (hx : text.size ≤ sizeLine)
    (h : ∀ s', Lay c h₀ L s' (ps ++ (if b < e then [cut text b e] else [])) → wpAny (model c.prog c.w) A rest Q E s') :
    wpAny (model c.prog c.w) A (if b < e then (reSlice text 0 b e >>= fun v => updateSeq L (·.push v) >>= fun _ => rest) else rest) Q E s := by
  split
  · rename_i hb
    refine wpAny_bind ?_
    unfold reSlice
    rw [if_pos (show ((0 : Nat) == 0) = true from rfl)]
    refine wpAny_mkStr ?_ (Nat.le_trans (cut_len text b e) hx)
    refine wpAny_bind (l.tok.push O hz fun s' l' => h s' ?_)
    rw [if_pos hb]; exact l'
  · rename_i hb
    exact h s (by rw [if_neg hb]; simpa using l)
theorem join_call {h₀ : Heap} {L : Addr} {s : Shared} {ps : List Str} {j : Str} {t : Tok} {E : Value → Shared → Prop} {Q : Value → Shared → Prop} (l : Lay c h₀ L s ps) (hok : JoinOk j ps = true)
    (h : ∀ s' t', G c s' → KK h₀ s'.heap → Q (.str (Txt.join j ps) t') s') : wpAny (model c.prog c.w) A (call (.builtin "str.join") [.str j t, .ref L]) Q E s := by
  refine (fn_join (c := c) (A := A) (x := j) (ss := ps) hok).run s [.str j t, .ref L] _ _ l.g (RpL.cons (rp_str.mpr ⟨t, rfl⟩) (RpL.one (rp_list.mpr ?_))) fun v s' g' k' r' => ?_
  · obtain ⟨vs, hl, r⟩ := l.list
    exact ⟨L, vs, rfl, l.nav, hl, r⟩
  · obtain ⟨t', rfl⟩ := rp_str.mp r'
    exact h s' t' g' (l.kk.trans k')
theorem sub_loop {h₀ : Heap} {L P : Addr} {code : Array Nat} {x repl : Str} {tx tr : Tok} {find : Nat → Option (Nat × Nat)} {R : Result → Shared → Prop} (O : c.Ok) (F : Finder code x.cps find) (hp : PatAt h₀ P code) (hz : x.length ≤ 4096) (hr : repl.length ≤ 2) (hA : A.handled = none)
    (res : List Str) (hok : JoinOk (cut x.cps 0 0) res = true) (hne : x.length ≠ 0)
    (hR : ∀ s' t', G c s' → KK h₀ s'.heap → R (.ok (.ret (.str (Txt.join (cut x.cps 0 0) res) t'))) s') :
    ∀ (n k st : Nat) (s : Shared) (ps : List Str), x.length + 1 ≤ st + n → st ≤ x.length → Lay c h₀ L s ps → ps ++ subP x.cps repl find n st = res → (st ≠ 0 → ps ≠ []) → ps.length + 2 * n + 1 ≤ 20000 →
    codeAny (model c.prog c.w) A (.builtin "re.Pattern.sub.loop" ⟨[.ref P, .str x tx, .str repl tr, rawInt 0, rawInt 0, rawInt k, rawInt st, rawInt st, .bool false, .ref L, .bool false], []⟩) R s
  | 0, k, st, s, ps, h1, h2, _, _, _, _ => by omega
  | n + 1, k, st, s, ps, h1, h2, l, hres, hnn, hlen => by
    have hsz : x.cps.size ≤ sizeLine := by have : sizeLine = 2 ^ 24 := rfl; have : x.cps.size = x.length := rfl; omega
    have hsl : sizeLine = 2 ^ 24 := rfl
    refine codeAny_builtin entry_subl ?_
    rw [Around.under_plainId plain_subl _]
    unfold Builtin.«re.Pattern.sub.loop»
    dsimp only [rawInt]
    refine wpAny_bind (whole_target (hp.kk l.kk) ?_)
    refine wpAny_bind ?_
    refine wpAny_of_eq (a := ()) rfl ?_
    dsimp only
    refine wpAny_bind ?_
    rw [if_neg (show ¬ (((0 : Int) != 0 && decide ((k : Int) ≥ 0)) = true) by simp)]
    unfold reNextFound
    dsimp only
    rw [show ((st : Int)).toNat = st from rfl]
    unfold subP at hres
    cases hf : find st with
    | some te =>
      obtain ⟨t, e⟩ := te
      rw [hf] at hres
      dsimp only at hres
      obtain ⟨g1, g2, g3⟩ := F.go _ _ _ hf
      obtain ⟨n', m', e1, e2, e3, e4, e5⟩ := F.hit st t e h2 hf
      refine run_found e2 e1 e3 ?_
      dsimp only
      rw [e4, e5, show (e == t) = false by simp; omega]
      refine lay_cut O l (by omega) hsz fun s₁ l₁ => ?_
      have hl₁ : (ps ++ (if st < t then [cut x.cps st t] else [])).length ≤ ps.length + 1 := by split <;> simp
      rw [if_pos (show ((0 : Int) == 0) = true from rfl)]
      refine wpAny_bind (wpAny_pure ?_)
      rw [if_pos (show (Value.str repl tr != Value.none) = true from rfl)]
      refine wpAny_bind (l₁.push O (by omega) fun s₂ l₂ => ?_)
      refine wpAny_pure ⟨plainId_quiet plain_subl _, ?_⟩
      refine sub_loop O F hp hz hr hA res hok hne hR n (k + 1) e s₂ _ (by omega) (by have : x.cps.size = x.length := rfl; omega) l₂ ?_ (fun _ => by simp) ?_
      · rw [← hres]; simp
      · simp only [List.length_append, List.length_cons, List.length_nil]
        simp only [List.length_append] at hl₁
        omega
    | none =>
      rw [hf] at hres
      dsimp only at hres
      obtain ⟨n', m', e1, e2, e3⟩ := F.miss st h2 hf
      refine run_none e2 e1 e3 ?_
      dsimp only
      refine lay_cut O l (by omega) hsz fun s₁ l₁ => ?_
      rw [hres] at l₁
      refine wpAny_bind ?_
      unfold reSlice
      rw [if_pos (show ((0 : Nat) == 0) = true from rfl)]
      refine wpAny_mkStr ?_ (Nat.le_trans (cut_len x.cps 0 0) hsz)
      have l₂ := l₁.tok (t := s₁.toks + 1)
      have hres0 : res ≠ [] := by
        rw [← hres]
        by_cases q : st < x.cps.size
        · rw [if_pos q]; simp
        · rw [if_neg q]
          have : x.cps.size = x.length := rfl
          simpa using hnn (by omega)
      obtain ⟨vs, hl, r⟩ := l₂.list
      obtain ⟨nn, ho⟩ := id hl
      refine wpAny_bind (wpAny_seqItems ho rfl ?_)
      have hvs : vs.isEmpty = false := by
        have h1 := r.length
        simp only [Array.length_toList, List.length_map] at h1
        cases hq : vs.isEmpty with
        | false => rfl
        | true =>
          have : vs.size = 0 := by simpa using hq
          rw [this] at h1
          exact absurd (List.length_eq_zero_iff.mp h1.symm) hres0
      rw [Option.getD_some, hvs]
      rw [if_neg (by decide)]
      rw [if_pos (show ((0 : Nat) == 0) = true from rfl)]
      refine wpAny_bind (join_call l₂ hok fun s' t' g' k' => ?_)
      rw [if_neg (by decide)]
      exact wpAny_pure (hR s' t' g' k')
end
end Mine
end
/-! RQuote -/
section
open PySem PySem.W PyProof.Rows
set_option linter.unusedVariables false
set_option maxRecDepth 10000
namespace Mine
open PySem.Builtin.Re
theorem str_nocall : typeLookup (.type "str") "__call__" = pure none := by rw [typeLookup_type, builtinLookup_eq_fast]; kernel_rfl
section
variable {c : Cx} {A : Around}
theorem sub_call {s : Shared} {P : Addr} {code : Array Nat} {x repl : Str} {tx tr : Tok} {find : Nat → Option (Nat × Nat)} {E : Value → Shared → Prop} {Q : Value → Shared → Prop} (O : c.Ok) (hA : A.handled = none) (F : Finder code x.cps find) (g : G c s) (hp : PatAt s.heap P code) (hz : x.length ≤ 4096) (hr : repl.length ≤ 2) (h92 : repl.cps.contains 92 = false)
    (hok : JoinOk (cut x.cps 0 0) (subP x.cps repl find (x.length + 1) 0) = true) (hne : x.length ≠ 0)
    (hQ : ∀ s' t', G c s' → KK s.heap s'.heap → Q (.str (Txt.join (cut x.cps 0 0) (subP x.cps repl find (x.length + 1) 0)) t') s') :
    wpAny (model c.prog c.w) A (call (.builtin "re.Pattern.sub") [.ref P, .str repl tr, .str x tx]) Q E s := by
  have hp0 := hp
  obtain ⟨fs, T, ws, n, h1, h2, h3, h4, h5, h6⟩ := hp0
  refine wpAny_call (codeAny_call_builtin slot_sub.plain entry_sub (slot_sub.check _ _ _ _ _ _ _ _ (show s.TypeIs (.ref P) "re.Pattern" from ⟨_, h1, rfl⟩) (args_sub ..) ?_))
  show wpAny _ A.in1 (reSubstitute "re.Pattern.sub" "sub" false ⟨[.ref P, .str repl tr, .str x tx], []⟩) _ _ s
  unfold reSubstitute
  dsimp only
  refine wpAny_bind (wpAny_of_eq (a := [some (.str repl tr), some (.str x tx), none]) rfl ?_)
  dsimp only
  refine wpAny_bind (wpAny_pure ?_)
  refine wpAny_bind (wpAny_specialOf (typeIs_str _ _ _) str_nocall ?_)
  dsimp only [Option.isSome_none]
  simp only [Bool.false_eq_true, if_false]
  refine wpAny_bind (wpAny_of_eq (a := some repl) rfl ?_)
  dsimp only
  rw [h92]
  refine wpAny_bind (wpAny_pure ?_)
  simp only [Bool.not_false, if_true]
  refine wpAny_bind (wpAny_pure ?_)
  dsimp only
  refine wpAny_bind (wpAny_holding (whole_target hp ?_))
  rw [if_neg (by decide)]
  refine wpAny_bind (wpAny_newList ?_)
  refine wpAny_pure ⟨plainId_quiet plain_subl _, ?_⟩
  have hn : s.heap.get? s.heap.objs.size = none := by
    cases e : s.heap.get? s.heap.objs.size with
    | none => rfl
    | some o => exact absurd (Heap.lt_size e) (Nat.lt_irrefl _)
  refine sub_loop (h₀ := s.heap) O F hp hz hr hA (subP x.cps repl find (x.length + 1) 0) hok hne (fun s' t' g' k' => hQ s' t' g' k') (x.length + 1) 0 0 _ [] (by omega) (by omega) ⟨g.push (t := s.toks), KK.push _ _, hn, g.fresh, g.navs, #[], ⟨_, Heap.get?_push_size _ rfl⟩, RpL.nil⟩ rfl (fun h => absurd rfl h) ?_
  simp only [List.length_nil]
  omega
end

-- what the finds are
def firstFrom (p : Nat → Prop) [DecidablePred p] : Nat → Nat → Option Nat
  | 0, _ => none
  | n + 1, s => if p s then some s else firstFrom p n (s + 1)
theorem first_some {p : Nat → Prop} [DecidablePred p] {t : Nat} : ∀ (n s : Nat), firstFrom p n s = some t → s ≤ t ∧ p t ∧ ∀ u, s ≤ u → u < t → ¬ p u
  | 0, s, h => by cases h
  | n + 1, s, h => by
    unfold firstFrom at h
    split at h
    · rename_i hp; cases h; exact ⟨Nat.le_refl _, hp, fun u h1 h2 => by omega⟩
    · rename_i hp
      obtain ⟨h1, h2, h3⟩ := first_some n (s + 1) h
      refine ⟨by omega, h2, fun u h4 h5 => ?_⟩
      by_cases q : u = s
      · subst q; exact hp
      · exact h3 u (by omega) h5
theorem first_none {p : Nat → Prop} [DecidablePred p] : ∀ (n s : Nat), firstFrom p n s = none → ∀ u, s ≤ u → u < s + n → ¬ p u
  | 0, s, _, u, h1, h2 => by omega
  | n + 1, s, h, u, h1, h2 => by
    unfold firstFrom at h
    split at h
    · cases h
    · rename_i hp
      by_cases q : u = s
      · subst q; exact hp
      · exact first_none n (s + 1) h u (by omega) (by omega)
def find1 (text : Array Nat) (s : Nat) : Option (Nat × Nat) := (firstFrom (dot1 text) (text.size + 1 - s) s).map fun t => (t, t + 1)
def find2 (text : Array Nat) (s : Nat) : Option (Nat × Nat) := (firstFrom (eol2 text) (text.size + 1 - s) s).map fun t => (t, t + eolW text t)
theorem eolW_le (text : Array Nat) (t : Nat) (h : t < text.size) : 1 ≤ eolW text t ∧ t + eolW text t ≤ text.size := by
  have : eolW text t = 1 ∨ (eolW text t = 2 ∧ t + 1 < text.size) := by
    by_cases q : text.getD t 0 = 13 ∧ t + 1 < text.size ∧ text.getD (t + 1) 0 = 10
    · right; unfold eolW; rw [if_pos q]; exact ⟨rfl, q.2.1⟩
    · left; unfold eolW; rw [if_neg q]
  omega
theorem same_first {p : Nat → Prop} {s t u : Nat} (h1 : s ≤ t) (h2 : p t) (h3 : ∀ v, s ≤ v → v < t → ¬ p v) (k1 : s ≤ u) (k2 : p u) (k3 : ∀ v, s ≤ v → v < u → ¬ p v) : t = u := by
  rcases Nat.lt_trichotomy t u with h | h | h
  · exact absurd h2 (k3 t h1 h)
  · exact h
  · exact absurd k2 (h3 u k1 h)
theorem finder1 (text : Array Nat) (hz : text.size ≤ 4096) : Finder code1 text (find1 text) := by
  refine ⟨fun s t e hs h => ?_, fun s hs h => ?_, fun s t e h => ?_⟩
  · unfold find1 at h
    cases q : firstFrom (dot1 text) (text.size + 1 - s) s with
    | none => rw [q] at h; cases h
    | some t' =>
      rw [q] at h; cases h
      obtain ⟨h1, h2, h3⟩ := first_some _ _ q
      rcases search1 text s hs with ⟨u, m', k1, k2, k3, k4, k5, k6, k7⟩ | ⟨k1, _⟩
      · have := same_first h1 h2 h3 k1 k2 k3
        subst this
        exact ⟨_, m', by omega, k4, k5, k6, k7⟩
      · exact absurd h2 (k1 t h1)
  · unfold find1 at h
    cases q : firstFrom (dot1 text) (text.size + 1 - s) s with
    | some t' => rw [q] at h; cases h
    | none =>
      have hn := first_none _ _ q
      rcases search1 text s hs with ⟨u, m', k1, k2, k3, k4, k5, k6, k7⟩ | ⟨k1, m', k2, k3⟩
      · exact absurd k2 (hn u k1 (by have := k2.1; omega))
      · exact ⟨_, m', by omega, k2, k3⟩
  · unfold find1 at h
    cases q : firstFrom (dot1 text) (text.size + 1 - s) s with
    | none => rw [q] at h; cases h
    | some t' =>
      rw [q] at h; cases h
      obtain ⟨h1, h2, h3⟩ := first_some _ _ q
      have := h2.1
      omega
theorem finder2 (text : Array Nat) : Finder code2 text (find2 text) := by
  refine ⟨fun s t e hs h => ?_, fun s hs h => ?_, fun s t e h => ?_⟩
  · unfold find2 at h
    cases q : firstFrom (eol2 text) (text.size + 1 - s) s with
    | none => rw [q] at h; cases h
    | some t' =>
      rw [q] at h; cases h
      obtain ⟨h1, h2, h3⟩ := first_some _ _ q
      rcases search2 text s hs with ⟨u, m', k1, k2, k3, k4, k5, k6, k7⟩ | ⟨k1, _⟩
      · have := same_first h1 h2 h3 k1 k2 k3
        subst this
        exact ⟨_, m', by omega, k4, k5, k6, k7⟩
      · exact absurd h2 (k1 t h1)
  · unfold find2 at h
    cases q : firstFrom (eol2 text) (text.size + 1 - s) s with
    | some t' => rw [q] at h; cases h
    | none =>
      have hn := first_none _ _ q
      rcases search2 text s hs with ⟨u, m', k1, k2, k3, k4, k5, k6, k7⟩ | ⟨k1, m', k2, k3⟩
      · exact absurd k2 (hn u k1 (by have := k2.1; omega))
      · exact ⟨_, m', by omega, k2, k3⟩
  · unfold find2 at h
    cases q : firstFrom (eol2 text) (text.size + 1 - s) s with
    | none => rw [q] at h; cases h
    | some t' =>
      rw [q] at h; cases h
      obtain ⟨h1, h2, h3⟩ := first_some _ _ q
      have := eolW_le text t h2.1
      have := h2.1
      omega

-- the plain law of the finds
def norm : List Nat → List Nat
  | [] => []
  | k :: r => if k = 13 then (match r with
      | [] => [13, 10]
      | j :: q => if j = 10 then 13 :: 10 :: norm q else 13 :: 10 :: norm (j :: q))
    else if k = 10 then 13 :: 10 :: norm r else k :: norm r
def dots : Bool → List Nat → List Nat
  | _, [] => []
  | b, k :: r => (if b = true ∧ k = 46 then [46, 46] else [k]) ++ dots (decide (k = 10)) r
def flatS (ss : List Str) : List Nat := (ss.map fun s => s.cps.toList).flatten
theorem drop_at (text : Array Nat) (s : Nat) (h : s < text.size) : text.toList.drop s = text.getD s 0 :: text.toList.drop (s + 1) := by
  rw [List.drop_eq_getElem_cons (by simpa using h)]
  simp [Array.getD, h]
theorem cut_list (text : Array Nat) (b e : Nat) : (cut text b e).cps.toList = (text.toList.drop b).take (e - b) := by
  show (text.extract b e).toList = _
  rw [Array.toList_extract, List.extract_eq_take_drop]
theorem norm_step (k : Nat) (r : List Nat) (h : ¬ (k = 10 ∨ k = 13)) : norm (k :: r) = k :: norm r := by
  conv => lhs; rw [norm.eq_def]
  dsimp only
  rw [if_neg (fun q => h (.inr q)), if_neg (fun q => h (.inl q))]
theorem norm_10 (r : List Nat) : norm (10 :: r) = 13 :: 10 :: norm r := by
  conv => lhs; rw [norm.eq_def]
  rfl
theorem norm_1310 (r : List Nat) : norm (13 :: 10 :: r) = 13 :: 10 :: norm r := by
  conv => lhs; rw [norm.eq_def]
  rfl
theorem norm_13 (r : List Nat) (h : r.head? ≠ some 10) : norm (13 :: r) = 13 :: 10 :: norm r := by
  cases r with
  | nil => simp [norm]
  | cons j q =>
    conv => lhs; rw [norm.eq_def]
    dsimp only
    rw [if_pos rfl, if_neg (by simpa using h)]
theorem norm_to (text : Array Nat) (t : Nat) (ht : t ≤ text.size) : ∀ (n s : Nat), s + n = t → (∀ u, s ≤ u → u < t → ¬ eol2 text u) → norm (text.toList.drop s) = (text.toList.drop s).take (t - s) ++ norm (text.toList.drop t)
  | 0, s, h, _ => by
    have : s = t := by omega
    subst this; simp
  | n + 1, s, h, k => by
    have hs : s < text.size := by omega
    rw [drop_at text s hs, norm_step _ _ (fun q => k s (Nat.le_refl _) (by omega) ⟨hs, q⟩), norm_to text t ht n (s + 1) (by omega) (fun u h1 h2 => k u (by omega) h2), show t - s = (t - (s + 1)) + 1 by omega, List.take_succ_cons, List.cons_append]
theorem norm_eol (text : Array Nat) (t : Nat) (h : eol2 text t) : norm (text.toList.drop t) = 13 :: 10 :: norm (text.toList.drop (t + eolW text t)) := by
  obtain ⟨ht, hc⟩ := h
  rw [drop_at text t ht]
  by_cases h13 : text.getD t 0 = 13
  · rw [h13]
    by_cases hn : t + 1 < text.size
    · rw [drop_at text (t + 1) hn]
      by_cases h10 : text.getD (t + 1) 0 = 10
      · have : eolW text t = 2 := by unfold eolW; rw [if_pos ⟨h13, hn, h10⟩]
        rw [this, h10, norm_1310]
      · have : eolW text t = 1 := by unfold eolW; rw [if_neg (fun q => h10 q.2.2)]
        rw [this, drop_at text (t + 1) hn, norm_13 _ (by simpa using h10)]
    · have : eolW text t = 1 := by unfold eolW; rw [if_neg (fun q => hn q.2.1)]
      rw [this, List.drop_of_length_le (by simp; omega)]
      simp [norm]
  · have h10 : text.getD t 0 = 10 := hc.resolve_right h13
    have : eolW text t = 1 := by unfold eolW; rw [if_neg (fun q => h13 q.1)]
    rw [this, h10, norm_10]
theorem norm_end (text : Array Nat) (s : Nat) (hs : s ≤ text.size) (h : ∀ u, s ≤ u → u < text.size → ¬ eol2 text u) : norm (text.toList.drop s) = text.toList.drop s := by
  rw [norm_to text text.size (Nat.le_refl _) (text.size - s) s (by omega) h, List.drop_of_length_le (i := text.size) (by simp), List.take_of_length_le (by simp)]
  simp [norm]
theorem subP_norm (text : Array Nat) (repl : Str) (hr : repl.cps.toList = [13, 10]) : ∀ (n s : Nat), text.size + 1 ≤ s + n → s ≤ text.size → flatS (subP text repl (find2 text) n s) = norm (text.toList.drop s)
  | 0, s, h, h' => by omega
  | n + 1, s, h, h' => by
    unfold subP
    have F := finder2 text
    cases hf : find2 text s with
    | none =>
      have hn : ∀ u, s ≤ u → u < text.size → ¬ eol2 text u := by
        unfold find2 at hf
        cases q : firstFrom (eol2 text) (text.size + 1 - s) s with
        | some t' => rw [q] at hf; cases hf
        | none => exact fun u h1 h2 => first_none _ _ q u h1 (by omega)
      rw [norm_end text s h' hn]
      dsimp only
      by_cases q : s < text.size
      · rw [if_pos q]
        simp only [flatS, List.map_cons, List.map_nil, List.flatten_cons, List.flatten_nil, List.append_nil]
        rw [cut_list, List.take_of_length_le (by simp)]
      · rw [if_neg q, List.drop_of_length_le (by simp; omega)]; rfl
    | some te =>
      obtain ⟨t, e⟩ := te
      dsimp only
      unfold find2 at hf
      cases q : firstFrom (eol2 text) (text.size + 1 - s) s with
      | none => rw [q] at hf; cases hf
      | some t' =>
        rw [q] at hf; cases hf
        obtain ⟨h1, h2, h3⟩ := first_some _ _ q
        have hw := eolW_le text t h2.1
        have ih := subP_norm text repl hr n (t + eolW text t) (by omega) hw.2
        rw [norm_to text t (by have := h2.1; omega) (t - s) s (by omega) h3, norm_eol text t h2, ← ih]
        have e1 : flatS (if s < t then [cut text s t] else []) = (text.toList.drop s).take (t - s) := by
          split
          · simp [flatS, cut_list]
          · rw [show t - s = 0 by omega]; simp [flatS]
        unfold flatS at e1 ⊢
        rw [List.map_append, List.map_append, List.flatten_append, List.flatten_append, e1]
        simp [hr]
def lb (text : Array Nat) (s : Nat) : Bool := decide (s = 0 ∨ text.getD (s - 1) 0 = 10)
theorem lb_succ (text : Array Nat) (s : Nat) : lb text (s + 1) = decide (text.getD s 0 = 10) := by unfold lb; simp
theorem dots_to (text : Array Nat) (t : Nat) (ht : t ≤ text.size) : ∀ (n s : Nat), s + n = t → (∀ u, s ≤ u → u < t → ¬ dot1 text u) → dots (lb text s) (text.toList.drop s) = (text.toList.drop s).take (t - s) ++ dots (lb text t) (text.toList.drop t)
  | 0, s, h, _ => by
    have : s = t := by omega
    subst this; simp
  | n + 1, s, h, k => by
    have hs : s < text.size := by omega
    have hno : ¬ (lb text s = true ∧ text.getD s 0 = 46) := fun q => k s (Nat.le_refl _) (by omega) ⟨hs, by simpa [lb] using q.1, q.2⟩
    rw [drop_at text s hs, dots, if_neg hno, ← lb_succ, dots_to text t ht n (s + 1) (by omega) (fun u h1 h2 => k u (by omega) h2), show t - s = (t - (s + 1)) + 1 by omega, List.take_succ_cons, List.cons_append]
    rfl
theorem dots_dot (text : Array Nat) (t : Nat) (h : dot1 text t) : dots (lb text t) (text.toList.drop t) = 46 :: 46 :: dots (lb text (t + 1)) (text.toList.drop (t + 1)) := by
  obtain ⟨ht, h1, h2⟩ := h
  rw [drop_at text t ht, dots, if_pos ⟨by simpa [lb] using h1, h2⟩, lb_succ]; rfl
theorem subP_dots (text : Array Nat) (repl : Str) (hr : repl.cps.toList = [46, 46]) : ∀ (n s : Nat), text.size + 1 ≤ s + n → s ≤ text.size → flatS (subP text repl (find1 text) n s) = dots (lb text s) (text.toList.drop s)
  | 0, s, h, h' => by omega
  | n + 1, s, h, h' => by
    unfold subP
    cases hf : find1 text s with
    | none =>
      have hn : ∀ u, s ≤ u → u < text.size → ¬ dot1 text u := by
        unfold find1 at hf
        cases q : firstFrom (dot1 text) (text.size + 1 - s) s with
        | some t' => rw [q] at hf; cases hf
        | none => exact fun u h1 h2 => first_none _ _ q u h1 (by omega)
      rw [dots_to text text.size (Nat.le_refl _) (text.size - s) s (by omega) hn, List.drop_of_length_le (i := text.size) (by simp), dots, List.append_nil]
      dsimp only
      by_cases q : s < text.size
      · rw [if_pos q]
        simp only [flatS, List.map_cons, List.map_nil, List.flatten_cons, List.flatten_nil, List.append_nil]
        rw [cut_list]
      · rw [if_neg q, List.drop_of_length_le (by simp; omega)]; simp [flatS]
    | some te =>
      obtain ⟨t, e⟩ := te
      dsimp only
      unfold find1 at hf
      cases q : firstFrom (dot1 text) (text.size + 1 - s) s with
      | none => rw [q] at hf; cases hf
      | some t' =>
        rw [q] at hf; cases hf
        obtain ⟨h1, h2, h3⟩ := first_some _ _ q
        have h21 := h2.1
        have ih := subP_dots text repl hr n (t + 1) (by omega) (by omega)
        rw [dots_to text t (by omega) (t - s) s (by omega) h3, dots_dot text t h2, ← ih]
        have e1 : flatS (if s < t then [cut text s t] else []) = (text.toList.drop s).take (t - s) := by
          split
          · simp [flatS, cut_list]
          · rw [show t - s = 0 by omega]; simp [flatS]
        unfold flatS at e1 ⊢
        rw [List.map_append, List.map_append, List.flatten_append, List.flatten_append, e1]
        simp [hr]
/-- the two together are the walk from sign to sign -/
def tailD (bf : Option Nat) (l : List Nat) : List Nat := if bf = some 13 ∧ l.head? = some 10 then dots true (norm l.tail) else dots (decide (bf = none ∨ bf = some 13 ∨ bf = some 10)) (norm l)
theorem sent_norm : ∀ (l : List Nat) (bf : Option Nat), sentGo bf l = tailD bf l
  | [], bf => by simp [sentGo, tailD, norm, dots]
  | k :: r, bf => by
    have ih := sent_norm r (some k)
    unfold sentGo
    rw [ih]
    unfold chunk t1 t2
    by_cases h13 : k = 13
    · subst h13
      have e : tailD bf (13 :: r) = dots (decide (bf = none ∨ bf = some 13 ∨ bf = some 10)) (norm (13 :: r)) := by unfold tailD; rw [if_neg (by simp)]
      rw [e]
      by_cases h10 : r.head? = some 10
      · obtain ⟨q, rfl⟩ : ∃ q, r = 10 :: q := by
          cases r with
          | nil => simp at h10
          | cons j q => simp at h10; exact ⟨q, by rw [h10]⟩
        rw [norm_1310]
        simp [tailD, dots]
      · rw [norm_13 r h10]
        simp [tailD, h10, dots]
    · have e2 : tailD (some k) r = dots (decide (k = 10)) (norm r) := by
        unfold tailD; rw [if_neg (by simp [h13])]
        simp [h13]
      rw [e2]
      by_cases h10 : k = 10
      · subst h10
        by_cases hb : bf = some 13
        · subst hb
          simp [tailD]
        · have e : tailD bf (10 :: r) = dots (decide (bf = none ∨ bf = some 13 ∨ bf = some 10)) (norm (10 :: r)) := by unfold tailD; rw [if_neg (by simp [hb])]
          rw [e, norm_10]
          simp [dots, hb]
      · have e : tailD bf (k :: r) = dots (decide (bf = none ∨ bf = some 13 ∨ bf = some 10)) (norm (k :: r)) := by unfold tailD; rw [if_neg (by simp [h10])]
        rw [e, norm_step k r (by omega), dots]
        by_cases h46 : k = 46
        · subst h46
          by_cases hb : (bf = none ∨ bf = some 13 ∨ bf = some 10)
          · simp [hb]
          · simp [hb]
        · simp [h13, h10, h46]
theorem sent_is (l : List Nat) : sentGo none l = dots true (norm l) := by rw [sent_norm]; simp [tailD]
end Mine
end
/-! RQuote2 -/
section
open PySem PySem.W PyProof.Rows
set_option linter.unusedVariables false
set_option maxRecDepth 10000
namespace Mine
theorem norm_len : ∀ n (l : List Nat), l.length ≤ n → (norm l).length ≤ 2 * l.length := by
  intro n
  induction n with
  | zero => intro l h; cases l <;> simp at h ⊢; simp [norm]
  | succ n ih =>
    intro l h
    cases l with
    | nil => simp [norm]
    | cons k r =>
      simp only [List.length_cons] at h ⊢
      by_cases h13 : k = 13
      · subst h13
        by_cases h10 : r.head? = some 10
        · obtain ⟨q, rfl⟩ : ∃ q, r = 10 :: q := by
            cases r with
            | nil => simp at h10
            | cons j q => simp at h10; exact ⟨q, by rw [h10]⟩
          simp only [List.length_cons] at h ⊢
          rw [norm_1310]
          simp only [List.length_cons]
          have := ih q (by omega)
          omega
        · rw [norm_13 r h10]
          simp only [List.length_cons]
          have := ih r (by omega)
          omega
      · by_cases h10 : k = 10
        · subst h10
          rw [norm_10]
          simp only [List.length_cons]
          have := ih r (by omega)
          omega
        · rw [norm_step k r (by omega)]
          simp only [List.length_cons]
          have := ih r (by omega)
          omega
theorem norm_ne (l : List Nat) (h : l.length ≠ 0) : (norm l).length ≠ 0 := by
  cases l with
  | nil => simp at h
  | cons k r =>
    by_cases h13 : k = 13
    · subst h13
      by_cases h10 : r.head? = some 10
      · obtain ⟨q, rfl⟩ : ∃ q, r = 10 :: q := by
          cases r with
          | nil => simp at h10
          | cons j q => simp at h10; exact ⟨q, by rw [h10]⟩
        rw [norm_1310]; simp
      · rw [norm_13 r h10]; simp
    · by_cases h10 : k = 10
      · subst h10; rw [norm_10]; simp
      · rw [norm_step k r (by omega)]; simp
theorem dots_len : ∀ (l : List Nat) (b : Bool), (dots b l).length ≤ 2 * l.length
  | [], b => by simp [dots]
  | k :: r, b => by
    rw [dots]
    have := dots_len r (decide (k = 10))
    simp only [List.length_append, List.length_cons]
    split <;> simp <;> omega
theorem flat_len : ∀ ss : List Str, (ss.map (·.length)).sum = (flatS ss).length
  | [] => rfl
  | x :: r => by
    have := flat_len r
    unfold flatS at this ⊢
    simp only [List.map_cons, List.sum_cons, List.flatten_cons, List.length_append, this]
    simp [Str.length]
theorem cut_nil (text : Array Nat) : cut text 0 0 = Str.ofString "" := by
  rw [s_nil]
  show (⟨text.extract 0 0⟩ : Str) = _
  simp
theorem joinOk_cut {text : Array Nat} {ss : List Str} (h : (flatS ss).length ≤ 100000) : JoinOk (cut text 0 0) ss = true := by
  refine joinOk_of ?_
  rw [flat_len, cut_nil, s_nil]
  have : sizeLine = 2 ^ 24 := rfl
  show _ + _ * 0 ≤ _
  omega
theorem join_cut (text : Array Nat) (ss : List Str) : Txt.join (cut text 0 0) ss = ⟨(flatS ss).toArray⟩ := by rw [cut_nil, join_nil]; rfl
section
variable {c : Cx} {A : Around} {env : Env} {ρ : Rho}
theorem pat85 (O : c.Ok) : PatAt c.h₀ 85 code1 := ⟨_, 84, _, _, O.K 85 _ rfl, rfl, rfl, rfl, O.K 84 _ rfl, by decide +kernel⟩
theorem pat90 (O : c.Ok) : PatAt c.h₀ 90 code2 := ⟨_, 89, _, _, O.K 90 _ rfl, rfl, rfl, rfl, O.K 89 _ rfl, by decide +kernel⟩
/-- a text that the top binds -/
theorem ev_globalS {x : Str} {pos : Pos} {v : Str} {t : Tok} (O : c.Ok) (ok : EnvOk env) (hx : env.kindOf x = some .globalImplicit) (hd : (x == ("__debug__" : Str)) = false) (hv : c.mg x = some (.str v t)) : Ev c A env ρ (eval (.Name x pos) env) (.str v) := by
  refine ⟨fun s Q E g hs hQ => ?_⟩
  exact load_global O ok g hx hd (.inl hv) (hQ _ s g (KK.refl _) (rp_str.mpr ⟨t, rfl⟩))
theorem ev_sub {X : Str} {P : Addr} {p0 apos pos : Pos} {e₁ e₂ : Expr} {code : Array Nat} {repl x y : Str} {find : Nat → Option (Nat × Nat)} (O : c.Ok) (ok : EnvOk env) (hA : A.handled = none) (hx : env.kindOf X = some .globalImplicit) (hd : (X == ("__debug__" : Str)) = false) (hv : c.mg X = some (.ref P)) (hp : PatAt c.h₀ P code) (hl : (apos.endLine == pos.line) = true)
    (n1 : notStar e₁ = true) (n2 : notStar e₂ = true) (hb : attributeBase (.Name X p0) (Str.ofString "sub") env (eval (.Name X p0) env) = eval (.Name X p0) env) (h₁ : Ev c A env ρ (eval e₁ env) (.str repl)) (h₂ : Ev c A env ρ (eval e₂ env) (.str x)) (F : Finder code x.cps find) (hz : x.length ≤ 4096) (hr : repl.length ≤ 2) (h92 : repl.cps.contains 92 = false)
    (hy : flatS (subP x.cps repl find (x.length + 1) 0) = y.cps.toList) (hyl : y.length ≤ 100000) (hne : x.length ≠ 0) : Ev c A env ρ (eval (.Call (.Attribute (.Name X p0) (Str.ofString "sub") apos) [e₁, e₂] [] pos) env) (.str y) := by
  refine ⟨fun s Q E g hs hQ => ?_⟩
  refine wpAny_Call_method2_late hb hl (by rw [star_cons n1, star_cons n2]; rfl) (load_global O ok g hx hd (.inl hv) ?_)
  have hp' := hp.kk g.kk
  obtain ⟨fs, T, ws, n, g1, g2⟩ := id hp'
  refine ⟨"re.Pattern", "re.Pattern.sub", pa_pat, slot_sub, type_sub, ⟨_, g1, rfl⟩, fun a e => ?_, ?_⟩
  · cases e; exact ⟨_, g1, rfl⟩
  refine Calls.callWith_builtin rfl (Calls.evalArgs_plain (Calls.spliced_cons (h₁.run s _ _ g hs fun v s₁ g₁ k₁ r₁ => Calls.spliced_cons (h₂.run s₁ _ _ g₁ (hs.mono k₁) fun w s₂ g₂ k₂ r₂ => Calls.spliced_nil ?_))))
  obtain ⟨t1, rfl⟩ := rp_str.mp r₁
  obtain ⟨t2, rfl⟩ := rp_str.mp r₂
  refine sub_call O hA F g₂ ((hp'.kk k₁).kk k₂) hz hr h92 (joinOk_cut ?_) hne fun s' t' g' k' => ?_
  · rw [hy]
    have : y.cps.toList.length = y.length := by simp [Str.length]
    omega
  · refine hQ _ s' g' ((k₁.trans k₂).trans k') (rp_str.mpr ⟨t', ?_⟩)
    rw [join_cut, hy]
/-- quotedata -/
theorem fn_quote (O : c.Ok) (hA : Rm A 3) {text : Str} (hz : text.length ≤ 1000) (hne : text.length ≠ 0) : Fn c A (.ref 97) [.str text] (.str ⟨(sentGo none text.cps.toList).toArray⟩) := by
  refine fn_call (fd := fdAt 97) (ps := [Str.ofString "data"]) (k := 2) O hA (O.K 97 _ rfl) rfl rfl ⟨96, _, _, _, rfl, O.K 96 _ rfl, nofun, rfl, rfl⟩ ?_ rfl (by decide) rfl rfl ?_ rfl rfl rfl
  · intro vals hv
    match vals, hv with
    | [x], _ => rfl
  · intro L hR
    have ok : EnvOk (callEnvC (fdAt 97) L 97) := callEnv_ok rfl rfl rfl
    have hl : text.cps.toList.length = text.length := by simp [Str.length]
    have n1 := norm_len _ text.cps.toList (Nat.le_refl _)
    have n2 := norm_ne text.cps.toList (by omega)
    have n3 := dots_len (norm text.cps.toList) true
    have e2 : flatS (subP text.cps (Str.ofString "\r\n") (find2 text.cps) (text.length + 1) 0) = (⟨(norm text.cps.toList).toArray⟩ : Str).cps.toList := by
      rw [subP_norm text.cps _ (by decide +kernel) (text.length + 1) 0 (by show text.length + 1 ≤ _; omega) (Nat.zero_le _)]
      simp
    have hnl : (⟨(norm text.cps.toList).toArray⟩ : Str).length = (norm text.cps.toList).length := by simp [Str.length]
    have e1 : flatS (subP (norm text.cps.toList).toArray (Str.ofString "..") (find1 (norm text.cps.toList).toArray) ((⟨(norm text.cps.toList).toArray⟩ : Str).length + 1) 0) = (⟨(sentGo none text.cps.toList).toArray⟩ : Str).cps.toList := by
      rw [subP_dots _ _ (by decide +kernel) _ 0 (by rw [hnl]; simp) (Nat.zero_le _), sent_is]
      simp [lb]
    refine ex_ret (ex_Return (ev_sub O ok hR.hd rfl rfl (mg_is O rfl) (pat85 O) rfl rfl rfl rfl ev_str (ev_sub O ok hR.hd rfl rfl (mg_is O rfl) (pat90 O) rfl rfl rfl rfl (ev_globalS O ok rfl rfl (mg_is O rfl)) (ev_Name rfl rfl rfl rfl) (finder2 _) (by omega) (by decide +kernel) (by decide +kernel) e2 (by omega) hne)
      (finder1 _ (by simp; omega)) (by omega) (by decide +kernel) (by decide +kernel) e1 ?_ (by omega)))
    show (sentGo none text.cps.toList).toArray.size ≤ _
    rw [sent_is]
    simp
    omega
end
end Mine
end
/-! FBase -/
section
open PySem PySem.W PyProof.Rows
set_option linter.unusedVariables false
namespace Mine
open PySem.Float64
theorem KN_ex : ∃ n : Nat, n = 2 ^ 1066 := ⟨_, rfl⟩
theorem KM_ex : ∃ n : Nat, n = 2 ^ 1074 := ⟨_, rfl⟩
noncomputable def KN : Nat := Classical.choose KN_ex
noncomputable def KM : Nat := Classical.choose KM_ex
theorem KN_eq : KN = 2 ^ 1066 := Classical.choose_spec KN_ex
theorem KM_eq : KM = 2 ^ 1074 := Classical.choose_spec KM_ex
theorem pow_split (a b c : Nat) (h : c = a + b) : 2 ^ c = 2 ^ a * 2 ^ b := by rw [h, Nat.pow_add]
theorem KN_pos : 0 < KN := by rw [KN_eq]; exact Nat.two_pow_pos 1066
theorem KM_pos : 0 < KM := by rw [KM_eq]; exact Nat.two_pow_pos 1074
theorem KM_KN : KM = 2 ^ 8 * KN := by rw [KN_eq, KM_eq]; exact pow_split 8 1066 1074 rfl
theorem pow_more (a c : Nat) (h : c = a + 1) : 2 ^ c = 2 ^ a * 2 := by rw [h, Nat.pow_succ]
theorem KN_67 : 2 ^ 1067 = KN * 2 := by rw [KN_eq]; exact pow_more 1066 1067 rfl
theorem KM_int : (2 : Int) ^ 1074 = (KM : Int) := by rw [KM_eq]; exact (Int.natCast_pow 2 1074).symm
/-- a finite float that is n 2^8-th parts -/
def Fx (x : UInt64) (n : Int) : Prop := (∃ a m e, decode x = .fin a m e) ∧ val x = n * (KN : Int)
theorem dist_self (a : Nat) : dist a a = 0 := by unfold dist; omega
theorem dist_zero {a b : Nat} (h : dist a b ≤ 0) : a = b := by unfold dist at h; omega
theorem nat_small {n : Nat} (h : n ≤ 0) : n = 0 := by omega
theorem V_hit (N : Nat) (hN : N < 2 ^ 53) : ∃ t, V t = N * KN := by
  by_cases h0 : N = 0
  · exact ⟨0, by rw [V_zero, h0, Nat.zero_mul]⟩
  · have h1 := Nat.log2_self_le h0
    have h2 : N < 2 ^ (N.log2 + 1) := Nat.lt_log2_self
    have h3 : N.log2 ≤ 52 := by
      have : N.log2 < 53 := (Nat.log2_lt h0).mpr hN
      omega
    refine ⟨(1066 - (52 - N.log2)) * 2 ^ 52 + N * 2 ^ (52 - N.log2), ?_⟩
    have k1 : 2 ^ 52 ≤ N * 2 ^ (52 - N.log2) := by
      have := Nat.mul_le_mul_right (2 ^ (52 - N.log2)) h1
      rw [← Nat.pow_add, show N.log2 + (52 - N.log2) = 52 by omega] at this
      exact this
    have k2 : N * 2 ^ (52 - N.log2) ≤ 2 ^ 53 := by
      have := Nat.mul_le_mul_right (2 ^ (52 - N.log2)) (Nat.le_of_lt h2)
      rw [← Nat.pow_add, show N.log2 + 1 + (52 - N.log2) = 53 by omega] at this
      exact this
    rw [V_at k2 (.inl k1), Nat.mul_assoc, ← Nat.pow_add, show 52 - N.log2 + (1066 - (52 - N.log2)) = 1066 by omega, KN_eq]
theorem pow_ge (a b : Nat) (h : a ≤ b) : 2 ^ a ≤ 2 ^ b := Nat.pow_le_pow_right (by decide) h
theorem big_lt {D N : Nat} (hD : 0 < D) (hN : N < 2 ^ 53) : ¬ (D * ((2 ^ 54 - 1) * 2 ^ 2045) ≤ 2 * (D * (N * KN))) := by
  have h3 : 2 * (N * KN) < (2 ^ 54 - 1) * 2 ^ 2045 := by
    have h4 : 2 * (N * KN) = N * (KN * 2) := by ac_rfl
    rw [h4, ← KN_67]
    have h5 : N * 2 ^ 1067 < 2 ^ 53 * 2 ^ 1067 := Nat.mul_lt_mul_of_pos_right hN (Nat.two_pow_pos _)
    refine Nat.lt_of_lt_of_le h5 ?_
    rw [← pow_split 53 1067 1120 rfl]
    have h6 : 1 * 2 ^ 2045 ≤ (2 ^ 54 - 1) * 2 ^ 2045 := Nat.mul_le_mul_right _ (by decide)
    rw [Nat.one_mul] at h6
    exact Nat.le_trans (pow_ge 1120 2045 (by decide)) h6
  have h7 : 2 * (D * (N * KN)) = D * (2 * (N * KN)) := by ac_rfl
  rw [h7]
  exact Nat.not_le.mpr (Nat.mul_lt_mul_of_pos_left h3 hD)
theorem fx_right {r : UInt64} {neg : Bool} {W D N : Nat} (h : Right r neg W D) (hD : 0 < D) (hN : N < 2 ^ 53) (hW : W = D * (N * KN)) : Fx r (sgn neg N) := by
  obtain ⟨t, rfl, ht, hov, hn⟩ := h
  have hlt : t < infMag := by
    rcases Nat.lt_or_ge t infMag with q | q
    · exact q
    · have := hov.mp (Nat.le_antisymm ht q)
      rw [hW] at this
      exact absurd this (big_lt hD hN)
  obtain ⟨t', ht'⟩ := V_hit N hN
  have hd := (hn hlt t').1
  rw [ht', hW, dist_self] at hd
  have hV := Nat.eq_of_mul_eq_mul_left hD (dist_zero hd)
  obtain ⟨m, e, hdec, _⟩ := decode_pack neg hlt
  exact ⟨⟨neg, m, e, hdec⟩, by rw [val_pack neg hlt, ← hV, sgn_mul]⟩
theorem K0 : (0 : Int) < (KN : Int) := Int.ofNat_lt.mpr KN_pos
theorem natAbs_K (n : Int) : (n * (KN : Int)).natAbs = n.natAbs * KN := by rw [Int.natAbs_mul]; rfl
theorem sgn_abs (n : Int) : sgn (decide (n < 0)) n.natAbs = n := by unfold sgn; by_cases h : n < 0 <;> simp [h] <;> omega
theorem neg_K (n : Int) : (n * (KN : Int) < 0) ↔ n < 0 := by
  constructor
  · intro h
    rcases Int.lt_or_le n 0 with q | q
    · exact q
    · exact absurd h (Int.not_lt.mpr (Int.mul_nonneg q (Int.le_of_lt K0)))
  · intro h
    exact Int.mul_neg_of_neg_of_pos h K0
theorem eq_K {a b : Int} (h : a * (KN : Int) = b * (KN : Int)) : a = b := Int.eq_of_mul_eq_mul_right (Int.ne_of_gt K0) h
theorem fx_zero (a : Bool) : Fx (zero a) 0 := by
  obtain ⟨m, e, h, hv⟩ := decode_pack a (t := 0) (by decide)
  refine ⟨⟨a, m, e, h⟩, ?_⟩
  show val (pack a 0) = _
  rw [val_pack a (by decide), V_zero, Int.zero_mul]
  cases a <;> rfl
theorem fx_add {x y : UInt64} {a b : Int} (hx : Fx x a) (hy : Fx y b) (h : (a + b).natAbs < 2 ^ 53) : Fx (add x y) (a + b) := by
  obtain ⟨⟨s, m, e, dx⟩, vx⟩ := hx
  obtain ⟨⟨s', m', e', dy⟩, vy⟩ := hy
  obtain ⟨h1, h2⟩ := add_right dx dy
  have hv : val x + val y = (a + b) * (KN : Int) := by rw [vx, vy, Int.add_mul]
  by_cases h0 : a + b = 0
  · rw [h1 (by rw [hv, h0, Int.zero_mul]), h0]; exact fx_zero _
  · have hne : val x + val y ≠ 0 := by rw [hv]; exact Int.mul_ne_zero h0 (Int.ne_of_gt K0)
    have r := fx_right (N := (a + b).natAbs) (h2 hne) (by decide) h (by rw [hv, natAbs_K, Nat.one_mul])
    rw [hv] at r
    have e : decide ((a + b) * (KN : Int) < 0) = decide (a + b < 0) := by simp only [neg_K]
    rw [e, sgn_abs] at r
    exact r
theorem fx_neg {x : UInt64} {a : Int} (hx : Fx x a) : Fx (neg x) (-a) := by
  obtain ⟨⟨s, m, e, dx⟩, vx⟩ := hx
  exact ⟨⟨_, _, _, neg_decode dx⟩, by rw [neg_val dx, vx, Int.neg_mul]⟩
theorem fx_sub {x y : UInt64} {a b : Int} (hx : Fx x a) (hy : Fx y b) (h : (a - b).natAbs < 2 ^ 53) : Fx (Float64.sub x y) (a - b) := by
  unfold Float64.sub
  rw [Int.sub_eq_add_neg] at h ⊢
  exact fx_add hx (fx_neg hy) h
/-- the sign of a finite float with a value -/
theorem sign_of {x : UInt64} {s : Bool} {m : Nat} {e : Int} {n : Int} (dx : decode x = .fin s m e) (vx : val x = n * (KN : Int)) (hn : n ≠ 0) : s = decide (n < 0) := by
  rw [val_eq dx] at vx
  have hm : m * 2 ^ (e + 1074).toNat ≠ 0 := by
    intro q
    rw [q] at vx
    have : n * (KN : Int) = 0 := by rw [← vx]; cases s <;> rfl
    exact Int.mul_ne_zero hn (Int.ne_of_gt K0) this
  have := neg_K n
  rw [← vx] at this
  generalize m * 2 ^ (e + 1074).toNat = M at *
  cases s with
  | false =>
    have h1 : ¬ (sgn false M < 0) := by unfold sgn; simp
    simpa using fun q => h1 (this.mpr q)
  | true =>
    have h1 : sgn true M < 0 := by unfold sgn; simp; omega
    simpa using this.mp h1
theorem sgn_prod {a b c : Int} (h : a * b = c * 2 ^ 8) (hc : c ≠ 0) : (decide (a < 0) != decide (b < 0)) = decide (c < 0) := by
  rcases Int.lt_trichotomy a 0 with ha | ha | ha
  · rcases Int.lt_trichotomy b 0 with hb | hb | hb
    · have := Int.mul_pos_of_neg_of_neg ha hb
      have hc' : ¬ c < 0 := by omega
      simp [ha, hb, hc']
    · subst hb; simp at h; omega
    · have := Int.mul_neg_of_neg_of_pos ha hb
      have hc' : c < 0 := by omega
      have hb' : ¬ b < 0 := by omega
      simp [ha, hb', hc']
  · subst ha; simp at h; omega
  · rcases Int.lt_trichotomy b 0 with hb | hb | hb
    · have := Int.mul_neg_of_pos_of_neg ha hb
      have hc' : c < 0 := by omega
      have ha' : ¬ a < 0 := by omega
      simp [ha', hb, hc']
    · subst hb; simp at h; omega
    · have := Int.mul_pos ha hb
      have hc' : ¬ c < 0 := by omega
      have ha' : ¬ a < 0 := by omega
      have hb' : ¬ b < 0 := by omega
      simp [ha', hb', hc']
theorem sgn_zero (s : Bool) : sgn s 0 = 0 := by cases s <;> rfl
theorem fx_mul {x y : UInt64} {a b c : Int} (hx : Fx x a) (hy : Fx y b) (hc : a * b = c * 2 ^ 8) (h : c.natAbs < 2 ^ 53) : Fx (mul x y) c := by
  obtain ⟨⟨s, m, e, dx⟩, vx⟩ := hx
  obtain ⟨⟨s', m', e', dy⟩, vy⟩ := hy
  have r := fx_right (N := c.natAbs) (D := KM) (by rw [KM_eq]; exact mul_right dx dy) KM_pos h (by
    rw [vx, vy, natAbs_K, natAbs_K]
    have h1 : a.natAbs * b.natAbs = c.natAbs * 2 ^ 8 := by rw [← Int.natAbs_mul, hc, Int.natAbs_mul]; rfl
    calc a.natAbs * KN * (b.natAbs * KN) = (a.natAbs * b.natAbs) * (KN * KN) := by ac_rfl
      _ = c.natAbs * 2 ^ 8 * (KN * KN) := by rw [h1]
      _ = 2 ^ 8 * KN * (c.natAbs * KN) := by ac_rfl
      _ = KM * (c.natAbs * KN) := by rw [KM_KN])
  by_cases h0 : c = 0
  · subst h0; rw [show (0 : Int).natAbs = 0 from rfl, sgn_zero] at r; exact r
  · have ha : a ≠ 0 := fun q => by subst q; simp at hc; omega
    have hb : b ≠ 0 := fun q => by subst q; simp at hc; omega
    rw [sign_of dx vx ha, sign_of dy vy hb, sgn_prod hc h0, sgn_abs] at r
    exact r
theorem fx_div {x y : UInt64} {a b c : Int} (hx : Fx x a) (hy : Fx y b) (hb : b ≠ 0) (hc : a * 2 ^ 8 = c * b) (h : c.natAbs < 2 ^ 53) : Fx (div x y) c := by
  obtain ⟨⟨s, m, e, dx⟩, vx⟩ := hx
  obtain ⟨⟨s', m', e', dy⟩, vy⟩ := hy
  have hk : m' ≠ 0 := by
    intro q
    rw [val_eq dy, q, Nat.zero_mul, sgn_zero] at vy
    exact Int.mul_ne_zero hb (Int.ne_of_gt K0) vy.symm
  have r := fx_right (N := c.natAbs) (W := (val x).natAbs * KM) (by rw [KM_eq]; exact div_right dx dy hk) (by rw [vy, natAbs_K]; exact Nat.mul_pos (Int.natAbs_pos.mpr hb) KN_pos) h (by
    rw [vx, vy, natAbs_K, natAbs_K]
    have h1 : a.natAbs * 2 ^ 8 = c.natAbs * b.natAbs := by rw [← Int.natAbs_mul, ← hc, Int.natAbs_mul]; rfl
    calc a.natAbs * KN * KM = a.natAbs * KN * (2 ^ 8 * KN) := by rw [KM_KN]
      _ = a.natAbs * 2 ^ 8 * (KN * KN) := by ac_rfl
      _ = c.natAbs * b.natAbs * (KN * KN) := by rw [h1]
      _ = b.natAbs * KN * (c.natAbs * KN) := by ac_rfl)
  by_cases h0 : c = 0
  · subst h0; rw [show (0 : Int).natAbs = 0 from rfl, sgn_zero] at r; exact r
  · have ha : a ≠ 0 := fun q => by subst q; simp at hc; exact absurd hc.symm (Int.mul_ne_zero h0 hb)
    have key : (decide (a < 0) != decide (b < 0)) = decide (c < 0) := by
      have h2 := sgn_prod (a := c) (b := b) (c := a) hc.symm ha
      rw [← h2]
      cases decide (c < 0) <;> cases decide (b < 0) <;> rfl
    rw [sign_of dx vx ha, sign_of dy vy hb, key, sgn_abs] at r
    exact r
theorem fx_ofFrac {a b c : Int} (hb : b ≠ 0) (hc : a * 2 ^ 8 = c * b) (h : c.natAbs < 2 ^ 53) : Fx (ofFrac (decide (a < 0) != decide (b < 0)) a.natAbs b.natAbs) c := by
  have h1 : a.natAbs * 2 ^ 8 = c.natAbs * b.natAbs := by rw [← Int.natAbs_mul, ← hc, Int.natAbs_mul]; rfl
  have hb' : 0 < b.natAbs := Int.natAbs_pos.mpr hb
  have hW : a.natAbs * KM * b.natAbs = b.natAbs * (c.natAbs * KN) * b.natAbs := by
    calc a.natAbs * KM * b.natAbs = a.natAbs * (2 ^ 8 * KN) * b.natAbs := by rw [KM_KN]
      _ = (a.natAbs * 2 ^ 8) * KN * b.natAbs := by ac_rfl
      _ = c.natAbs * b.natAbs * KN * b.natAbs := by rw [h1]
      _ = b.natAbs * (c.natAbs * KN) * b.natAbs := by ac_rfl
  rw [KM_eq] at hW
  have r := fx_right (N := c.natAbs) (ofFrac_right (neg := decide (a < 0) != decide (b < 0)) (n := a.natAbs) (d := b.natAbs) (W := b.natAbs * (c.natAbs * KN)) (D := b.natAbs) hb' hW hb') hb' h rfl
  by_cases h0 : c = 0
  · subst h0; rw [show (0 : Int).natAbs = 0 from rfl, sgn_zero] at r; exact r
  · have ha : a ≠ 0 := fun q => by subst q; simp at hc; exact absurd hc.symm (Int.mul_ne_zero h0 hb)
    have key : (decide (a < 0) != decide (b < 0)) = decide (c < 0) := by
      have h2 := sgn_prod (a := c) (b := b) (c := a) hc.symm ha
      rw [← h2]
      cases decide (c < 0) <;> cases decide (b < 0) <;> rfl
    rw [key, sgn_abs] at r
    rw [key]
    exact r
theorem fx_ofInt {i : Int} (h : i.natAbs * 2 ^ 8 < 2 ^ 53) : Fx (ofInt i) (i * 2 ^ 8) := by
  have r := fx_ofFrac (a := i) (b := 1) (c := i * 2 ^ 8) (by decide) (by rw [Int.mul_one]) (by rw [Int.natAbs_mul]; exact h)
  have e : (decide (i < 0) != decide ((1 : Int) < 0)) = decide (i < 0) := by cases decide (i < 0) <;> rfl
  rw [e] at r
  unfold ofInt
  exact r
theorem fx_finite {x : UInt64} {n : Int} (h : Fx x n) : isFinite x = true := by
  obtain ⟨⟨s, m, e, d⟩, _⟩ := h
  unfold isFinite; rw [d]
theorem fx_inf {x : UInt64} {n : Int} (h : Fx x n) : isInf x = false := by
  obtain ⟨⟨s, m, e, d⟩, _⟩ := h
  unfold isInf; rw [d]
theorem fx_isZero {x : UInt64} {n : Int} (h : Fx x n) : isZero x = decide (n = 0) := by
  obtain ⟨⟨s, m, e, d⟩, v⟩ := h
  unfold isZero
  rw [d]
  rw [val_eq d] at v
  cases m with
  | zero =>
    have : n = 0 := eq_K (b := 0) (by rw [← v, Nat.zero_mul, sgn_zero, Int.zero_mul])
    simp [this]
  | succ m =>
    have : n ≠ 0 := fun q => by
      rw [q, Int.zero_mul] at v
      have h1 := sgn_natAbs s ((m + 1) * 2 ^ (e + 1074).toNat)
      rw [v] at h1
      have := Nat.mul_pos (Nat.succ_pos m) (Nat.two_pow_pos (e + 1074).toNat)
      exact absurd h1.symm (Nat.ne_of_gt this)
    simp [this]
theorem fx_cmpInt {x : UInt64} {n : Int} (h : Fx x n) (i : Int) : (cmpInt x i != some Ordering.eq) = decide (n ≠ i * 2 ^ 8) := by
  obtain ⟨⟨s, m, e, d⟩, v⟩ := h
  rw [cmpInt_right d, v]
  have e1 : i * (2 : Int) ^ 1074 = i * 2 ^ 8 * (KN : Int) := by rw [KM_int, KM_KN, Int.natCast_mul, ← Int.mul_assoc]; rfl
  rw [e1]
  by_cases q : n = i * 2 ^ 8
  · rw [q]; simp
  · have hne : n * (KN : Int) ≠ i * 2 ^ 8 * (KN : Int) := fun h => q (eq_K h)
    have : compare (n * (KN : Int)) (i * 2 ^ 8 * (KN : Int)) ≠ Ordering.eq := fun h => hne (Int.compare_eq_eq.mp h)
    simp only [q, ne_eq, not_false_eq_true, decide_true]
    cases hq : compare (n * (KN : Int)) (i * 2 ^ 8 * (KN : Int)) with
    | eq => exact absurd hq this
    | lt => rfl
    | gt => rfl
/-- a product and its own rounding, where nothing is rounded -/
theorem fx_fma {x y z : UInt64} {a b c : Int} (hx : Fx x a) (hy : Fx y b) (hz : Fx z (-c)) (hc : a * b = c * 2 ^ 8) : Fx (fma x y z) 0 := by
  obtain ⟨⟨s, m, e, dx⟩, vx⟩ := hx
  obtain ⟨⟨s', m', e', dy⟩, vy⟩ := hy
  obtain ⟨⟨s'', m'', e'', dz⟩, vz⟩ := hz
  have he := decode_ge dx; have he' := decode_ge dy; have he'' := decode_ge dz
  have hf : fma x y z = (if sgn (s != s') (m * m' * 2 ^ (e + e' - min (e + e') e'').toNat) + sgn s'' (m'' * 2 ^ (e'' - min (e + e') e'').toNat) == 0 then zero (if m * m' == 0 && m'' == 0 then (s != s') && s'' else false) else
      ofBin (decide (sgn (s != s') (m * m' * 2 ^ (e + e' - min (e + e') e'').toNat) + sgn s'' (m'' * 2 ^ (e'' - min (e + e') e'').toNat) < 0)) (sgn (s != s') (m * m' * 2 ^ (e + e' - min (e + e') e'').toNat) + sgn s'' (m'' * 2 ^ (e'' - min (e + e') e'').toNat)).natAbs (min (e + e') e'')) := by
    unfold fma
    rw [dx, dy, dz]
    rfl
  rw [hf]
  have key : sgn (s != s') (m * m' * 2 ^ (e + e' - min (e + e') e'').toNat) + sgn s'' (m'' * 2 ^ (e'' - min (e + e') e'').toNat) = 0 := by
    have hs : ∀ u v : Nat, sgn (s != s') (u * v) = sgn s u * sgn s' v := by
      intro u v
      unfold sgn
      cases s <;> cases s' <;> simp [Int.natCast_mul, Int.neg_mul, Int.mul_neg]
    have h1 : (sgn (s != s') (m * m' * 2 ^ (e + e' - min (e + e') e'').toNat) + sgn s'' (m'' * 2 ^ (e'' - min (e + e') e'').toNat)) * ((2 ^ (min (e + e') e'' + 2148).toNat : Nat) : Int) = val x * val y + val z * (KM : Int) := by
      rw [Int.add_mul, ← sgn_mul, ← sgn_mul, val_eq dx, val_eq dy, val_eq dz, ← hs, ← sgn_mul]
      congr 2
      · rw [Nat.mul_assoc, ← Nat.pow_add, show (e + e' - min (e + e') e'').toNat + (min (e + e') e'' + 2148).toNat = (e + 1074).toNat + (e' + 1074).toNat by omega, Nat.pow_add]
        ac_rfl
      · have hx : (e'' - min (e + e') e'').toNat + (min (e + e') e'' + 2148).toNat = (e'' + 1074).toNat + 1074 := by omega
        rw [KM_eq, Nat.mul_assoc, Nat.mul_assoc, ← Nat.pow_add, ← Nat.pow_add, hx]
    have h2 : val x * val y + val z * (KM : Int) = 0 := by
      rw [vx, vy, vz]
      have e1 : (KM : Int) = 2 ^ 8 * (KN : Int) := by rw [KM_KN]; rfl
      rw [e1]
      have h3 : a * (KN : Int) * (b * (KN : Int)) = (a * b) * ((KN : Int) * (KN : Int)) := by ac_rfl
      rw [h3, hc]
      generalize (KN : Int) = K
      generalize (2 : Int) ^ 8 = J
      rw [Int.neg_mul, Int.neg_mul]
      have h4 : c * J * (K * K) = c * K * (J * K) := by ac_rfl
      rw [h4]
      exact Int.add_right_neg _
    rw [h2] at h1
    rcases Int.mul_eq_zero.mp h1 with q | q
    · exact q
    · exact absurd (Int.ofNat_eq_zero.mp q) (Nat.ne_of_gt (Nat.two_pow_pos _))
  rw [key]
  simp only [beq_self_eq_true, if_true]
  exact fx_zero _
end Mine
end
/-! FSum -/
section
open PySem PySem.W PyProof.Rows
set_option linter.unusedVariables false
set_option maxRecDepth 10000
namespace Mine
open PySem.Float64
/-- a number of the law and its value -/
def numF : D → UInt64
  | .int i => ofInt i
  | .flt x => x
  | _ => 0
inductive Nm : D → Int → Prop
  | int {i : Int} (h : i.natAbs < 2 ^ 40) : Nm (.int i) (i * 2 ^ 8)
  | flt {x : UInt64} {n : Int} (h : Fx x n) : Nm (.flt x) n
theorem Nm.fx {d : D} {n : Int} (h : Nm d n) : Fx (numF d) n := by
  cases h with
  | int h => exact fx_ofInt (by omega)
  | flt h => exact h
def stepF (ps : List UInt64) (x : UInt64) : List UInt64 := if isZero (fsumAdd ps x).2 then (fsumAdd ps x).1 else (fsumAdd ps x).1 ++ [(fsumAdd ps x).2]
def fsumB (xs : List UInt64) : UInt64 := fsumEnd (xs.foldl stepF [])
def PS (ps : List UInt64) (S : Int) : Prop := (ps = [] ∧ S = 0) ∨ ∃ p, ps = [p] ∧ Fx p S
theorem fsum_two {x y : UInt64} {a b : Int} (hx : Fx x a) (hy : Fx y b) (h1 : b.natAbs < 2 ^ 53) (h3 : (a + b).natAbs < 2 ^ 53) :
    Fx (Float64.sub y (Float64.sub (Float64.add x y) x)) 0 := by
  have e1 := fx_add hx hy h3
  have e2 := fx_sub e1 hx (by rw [show a + b - a = b by omega]; exact h1)
  rw [show a + b - a = b by omega] at e2
  have e3 := fx_sub hy e2 (by rw [show b - b = 0 by omega]; decide)
  rw [show b - b = 0 by omega] at e3
  exact e3
theorem step_ok {ps : List UInt64} {x : UInt64} {S a : Int} (hp : PS ps S) (hx : Fx x a) (h1 : S.natAbs < 2 ^ 53) (h2 : a.natAbs < 2 ^ 53) (h3 : (S + a).natAbs < 2 ^ 53) : isFinite (fsumAdd ps x).2 = true ∧ PS (stepF ps x) (S + a) := by
  rcases hp with ⟨rfl, rfl⟩ | ⟨p, rfl, hp⟩
  · have e : fsumAdd [] x = ([], x) := rfl
    unfold stepF
    rw [e]
    refine ⟨fx_finite hx, ?_⟩
    rw [Int.zero_add]
    rw [fx_isZero hx]
    by_cases q : a = 0
    · rw [if_pos (by simpa using q)]; exact .inl ⟨rfl, q⟩
    · rw [if_neg (by simpa using q)]; exact .inr ⟨x, rfl, hx⟩
  · have key : ∃ top, Fx top (S + a) ∧ fsumAdd [p] x = ([], top) := by
      show ∃ top, Fx top (S + a) ∧ (let q := if lt (Float64.abs x) (Float64.abs p) then (p, x) else (x, p); let hi := Float64.add q.1 q.2; let lo := Float64.sub q.2 (Float64.sub hi q.1); (if isZero lo then ([] : List UInt64) else [lo], hi)) = ([], top)
      cases hl : lt (Float64.abs x) (Float64.abs p) with
      | true =>
        have z := fsum_two hp hx h2 h3
        refine ⟨Float64.add p x, fx_add hp hx h3, ?_⟩
        simp only [if_true]
        rw [fx_isZero z]
        rfl
      | false =>
        have z := fsum_two hx hp h1 (by rw [Int.add_comm]; exact h3)
        refine ⟨Float64.add x p, by rw [Int.add_comm]; exact fx_add hx hp (by rw [Int.add_comm]; exact h3), ?_⟩
        simp only [Bool.false_eq_true, if_false]
        rw [fx_isZero z]
        rfl
    obtain ⟨top, ht, e⟩ := key
    unfold stepF
    rw [e]
    refine ⟨fx_finite ht, ?_⟩
    rw [fx_isZero ht]
    by_cases q : S + a = 0
    · rw [if_pos (by simpa using q)]; exact .inl ⟨rfl, q⟩
    · rw [if_neg (by simpa using q)]; exact .inr ⟨top, rfl, ht⟩
theorem end_ok {ps : List UInt64} {S : Int} (hp : PS ps S) : Fx (fsumEnd ps) S := by
  rcases hp with ⟨rfl, rfl⟩ | ⟨p, rfl, hp⟩
  · exact fx_zero _
  · exact hp
/-- numbers, their values, and room -/
inductive Nms : List D → List Int → Prop
  | nil : Nms [] []
  | cons {d : D} {n : Int} {ds : List D} {ns : List Int} (h : Nm d n) (t : Nms ds ns) : Nms (d :: ds) (n :: ns)
theorem Nms.length {ds : List D} {ns : List Int} (h : Nms ds ns) : ds.length = ns.length := by
  induction h with
  | nil => rfl
  | cons _ _ ih => simp [ih]
theorem Nms.get {ds : List D} {ns : List Int} (h : Nms ds ns) : ∀ {i : Nat} {d : D}, ds[i]? = some d → ∃ n, ns[i]? = some n ∧ Nm d n := by
  induction h with
  | nil => intro i d e; simp at e
  | cons h t ih =>
    intro i d e
    cases i with
    | zero => simp at e; subst e; exact ⟨_, rfl, h⟩
    | succ i => simp at e ⊢; exact ih e
def absSum (ns : List Int) : Nat := (ns.map Int.natAbs).sum
theorem absSum_cons (n : Int) (ns : List Int) : absSum (n :: ns) = n.natAbs + absSum ns := by simp [absSum]
theorem fold_ok {ds : List D} {ns : List Int} (h : Nms ds ns) : ∀ {ps : List UInt64} {S : Int}, PS ps S → S.natAbs + absSum ns < 2 ^ 53 → PS ((ds.map numF).foldl stepF ps) (S + ns.sum) := by
  induction h with
  | nil => intro ps S hp _; simpa using hp
  | cons hd t ih =>
    rename_i d n ds ns
    intro ps S hp hb
    rw [absSum_cons] at hb
    have hst := (step_ok hp hd.fx (by omega) (by omega) (by omega)).2
    have := ih hst (by omega)
    simp only [List.map_cons, List.foldl_cons, List.sum_cons]
    rw [← Int.add_assoc]
    exact this
theorem fsumB_ok {ds : List D} {ns : List Int} (h : Nms ds ns) (hb : absSum ns < 2 ^ 53) : Fx (fsumB (ds.map numF)) ns.sum := by
  have := end_ok (fold_ok h (ps := []) (S := 0) (.inl ⟨rfl, rfl⟩) (by simpa using hb))
  rw [Int.zero_add] at this
  exact this
/-- all turns are finite -/
theorem fold_fin {ds : List D} {ns : List Int} (h : Nms ds ns) : ∀ {ps : List UInt64} {S : Int}, PS ps S → S.natAbs + absSum ns < 2 ^ 53 → ∀ {i : Nat} {d : D}, ds[i]? = some d → isFinite (fsumAdd (((ds.map numF).take i).foldl stepF ps) (numF d)).2 = true := by
  induction h with
  | nil => intro ps S _ _ i d e; simp at e
  | cons hd t ih =>
    rename_i d n ds ns
    intro ps S hp hb i d' e
    rw [absSum_cons] at hb
    have hst := step_ok hp hd.fx (by omega) (by omega) (by omega)
    cases i with
    | zero => simp at e; subst e; exact hst.1
    | succ i =>
      simp at e
      simp only [List.map_cons, List.take_succ_cons, List.foldl_cons]
      exact ih hst.2 (by omega) e
theorem fold_take {ds : List D} {ns : List Int} (h : Nms ds ns) (hb : absSum ns < 2 ^ 53) (i : Nat) : ∃ S, PS (((ds.map numF).take i).foldl stepF []) S := by
  have key : ∀ {ds : List D} {ns : List Int}, Nms ds ns → ∀ {ps : List UInt64} {S : Int}, PS ps S → S.natAbs + absSum ns < 2 ^ 53 → ∀ i, ∃ S', PS (((ds.map numF).take i).foldl stepF ps) S' := by
    intro ds ns h
    induction h with
    | nil => intro ps S hp _ i; exact ⟨S, by simpa using hp⟩
    | cons hd t ih =>
      intro ps S hp hb i
      rw [absSum_cons] at hb
      cases i with
      | zero => exact ⟨S, by simpa using hp⟩
      | succ i =>
        simp only [List.map_cons, List.take_succ_cons, List.foldl_cons]
        exact ih (step_ok hp hd.fx (by omega) (by omega) (by omega)).2 (by omega) i
  exact key h (S := 0) (.inl ⟨rfl, rfl⟩) (by simpa using hb) i
section
variable {c : Cx} {A : Around}
def packT (ps : List UInt64) : Obj := { cls := .type "tuple", data := .seq (ps.map fun x => rawInt x.toNat).toArray }
theorem unpack_ok {E : Value → Shared → Prop} {s : Shared} {T : Addr} {ps : List UInt64} {Q : List UInt64 → Shared → Prop} (hT : s.heap.get? T = some (packT ps)) (h : Q ps s) :
    wpAny (model c.prog c.w) A (do return ((← seqItems? (.ref T)).getD #[]).toList.map fun | .int i _ => i.toNat.toUInt64 | _ => 0) Q E s := by
  refine wpAny_bind (wpAny_seqItems hT rfl (wpAny_pure ?_))
  have e : (((ps.map fun x => rawInt x.toNat).toArray : Array Value).toList.map fun (v : Value) => match v with | .int i _ => i.toNat.toUInt64 | _ => 0) = ps := by
    simp only [List.map_map]
    conv => rhs; rw [← List.map_id ps]
    apply List.map_congr_left
    intro x _
    show (x.toNat : Int).toNat.toUInt64 = x
    simp
  rw [Option.getD_some]
  exact (congrArg (fun l => Q l s) e).mpr h
theorem real_num {E : Value → Shared → Prop} {s : Shared} {h : Heap} {v : Value} {d : D} {n : Int} {Q : UInt64 → Shared → Prop} (hA : A.handled = none) (hn : Nm d n) (r : Rp c.av h v d) (hQ : ∀ tk, Q (numF d) { s with toks := tk }) :
    wpAny (model c.prog c.w) A (Builtin.Math.realArg v) Q E s := by
  have hfx := hn.fx
  cases hn with
  | int hi =>
    obtain ⟨t, rfl⟩ := rp_int.mp r
    refine PySem.Flt.realArg_int hA (fun hc => ?_) fun _ => hQ _
    have h1 := Float64.ofInt_isInf_iff.mpr hc
    rw [show isInf (ofInt _) = false from fx_inf hfx] at h1
    cases h1
  | flt hx =>
    obtain ⟨t, rfl⟩ := rp_flt.mp r
    exact wpAny_bind (wpAny_pure (wpAny_pure (hQ s.toks)))
theorem fsum_loop {ds : List D} {ns : List Int} {h₀ H : Heap} {I : Addr} {fp : List Addr} {P : Nat → Value → Prop} {St : Nat → Heap → Prop} {R : Result → Shared → Prop} (O : c.Ok) (hA : A.handled = none) (S : Src c H I ds fp P St) (hn : Nms ds ns) (hb : absSum ns < 2 ^ 53) (hfr : ∀ o, NT o → h₀.get? I ≠ some o) (hSt : ∀ i h, St i h → ∃ o, h.get? I = some o)
    (hR : ∀ s' t, G c s' → KK h₀ s'.heap → R (.ok (.ret (.float (fsumB (ds.map numF)) t))) s') :
    ∀ (k i : Nat) (s : Shared) (Tp Ts : Addr), i + k = ds.length → G c s → KK h₀ s.heap → St i s.heap → s.heap.get? Tp = some (packT (((ds.map numF).take i).foldl stepF [])) → s.heap.get? Ts = some (packT [Float64.zero false, Float64.zero false]) → Tp ≠ I → Ts ≠ I →
    codeAny (model c.prog c.w) A (.builtin "math.fsum.loop" ⟨[.ref I, .ref Tp, .ref Ts], []⟩) R s
  | 0, i, s, Tp, Ts, hk, g, kk, st, hp, hs, n1, n2 => by
    have hi : i = ds.length := by omega
    subst hi
    refine codeAny_builtin entry_fsuml ?_
    rw [Around.under_plainId plain_fsuml _]
    unfold Builtin.«math.fsum.loop»
    dsimp only
    refine wpAny_bind (unpack_ok hp (wpAny_bind (unpack_ok hs ?_)))
    dsimp only
    refine wpAny_bind ((S.W A.in1 hA).done s _ _ st fun h' tk hk' => ?_)
    have he : Heap.ExtBut I s.heap h' := fun b o hb e => hk' b o (by simpa using hb) e
    dsimp only
    rw [if_neg (show ¬ ((!Float64.isZero (Float64.zero false)) = true) by decide +kernel)]
    refine wpAny_bind (wpAny_mkFloat (wpAny_pure ?_))
    rw [List.take_of_length_le (by simp)]
    refine hR _ tk ((g.ext O S.old he S.nav).tok) ?_
    intro b o n e
    exact he b o (by rintro rfl; exact hfr o n e) (kk b o n e)
  | k + 1, i, s, Tp, Ts, hk, g, kk, st, hp, hs, n1, n2 => by
    have hlt : i < ds.length := by omega
    obtain ⟨d, hd⟩ : ∃ d, ds[i]? = some d := ⟨ds[i], by simp [hlt]⟩
    obtain ⟨n, hnn, hdn⟩ := hn.get hd
    refine codeAny_builtin entry_fsuml ?_
    rw [Around.under_plainId plain_fsuml _]
    unfold Builtin.«math.fsum.loop»
    dsimp only
    refine wpAny_bind (unpack_ok hp (wpAny_bind (unpack_ok hs ?_)))
    dsimp only
    refine wpAny_bind ((S.W A.in1 hA).item i s _ _ hlt st fun v h' tk hP st' hk' => ?_)
    have he : Heap.ExtBut I s.heap h' := fun b o hb e => hk' b o (by simpa using hb) e
    dsimp only
    have g1 : G c { s with heap := h', toks := tk } := g.ext O S.old he S.nav
    have kk1 : KK h₀ h' := fun b o n e => he b o (by rintro rfl; exact hfr o n e) (kk b o n e)
    refine wpAny_bind (wpAny_holding (real_num hA hdn (S.data i v d hP hd) fun tk2 => ?_))
    dsimp only
    have hf := fold_fin hn (ps := []) (S := 0) (.inl ⟨rfl, rfl⟩) (by simpa using hb) hd
    rw [if_pos hf]
    have hnext : (if Float64.isZero (fsumAdd (((ds.map numF).take i).foldl stepF []) (numF d)).2 = true then (fsumAdd (((ds.map numF).take i).foldl stepF []) (numF d)).1 else (fsumAdd (((ds.map numF).take i).foldl stepF []) (numF d)).1 ++ [(fsumAdd (((ds.map numF).take i).foldl stepF []) (numF d)).2]) = ((ds.map numF).take (i + 1)).foldl stepF [] := by
      rw [List.take_add_one, List.foldl_append, List.getElem?_map, hd]
      rfl
    rw [hnext]
    obtain ⟨S', PSn⟩ := fold_take hn hb (i + 1)
    have hlen : (((ds.map numF).take (i + 1)).foldl stepF []).length ≤ 1 := by
      rcases PSn with ⟨e, _⟩ | ⟨p, e, _⟩ <;> rw [e] <;> simp
    have kp := KK.push h' (packT (((ds.map numF).take (i + 1)).foldl stepF []))
    refine wpAny_bind ?_
    show wpAny _ _ (newTuple ((((ds.map numF).take (i + 1)).foldl stepF []).map fun x => rawInt x.toNat)) _ _ _
    refine wpAny_newTuple ?_ (by simp; have : sizeLine = 2 ^ 24 := rfl; omega)
    refine wpAny_pure ⟨plainId_quiet plain_fsuml _, ?_⟩
    refine fsum_loop O hA S hn hb hfr hSt hR k (i + 1) _ _ _ (by omega) (g1.push (t := tk2)) (kk1.trans kp) (S.kk st' kp) (Heap.get?_push_size _ rfl) (Heap.get?_push_of_some _ (he _ _ n2 hs)) ?_ n2
    obtain ⟨o', ho'⟩ := hSt _ _ st'
    have hlt2 := Heap.lt_size ho'
    intro q
    have q' : h'.objs.size = I := q
    rw [q'] at hlt2
    exact Nat.lt_irrefl _ hlt2
/-- fsum of a list -/
theorem fn_fsum {ds : List D} {ns : List Int} (O : c.Ok) (hA : A.handled = none) (hn : Nms ds ns) (hb : absSum ns < 2 ^ 53) : Fn c A (.builtin "math.fsum") [.list ds] (.flt (fsumB (ds.map numF))) := by
  refine ⟨fun s vs Q E g r hQ => ?_⟩
  obtain ⟨v, rfl, rv⟩ := rpl_one r
  obtain ⟨a, items, rfl, ha, hl, rl⟩ := rp_list.mp rv
  refine call_function_tree kind_fsum plain_fsum entry_fsum (args_fsum _) ?_
  unfold Builtin.«math.fsum»
  refine wpAny_bind (wpAny_of_eq (a := .ref a) rfl ?_)
  refine wpAny_bind (wpAny_pyIter_list hl.isList ?_)
  have S := src_list g ha hl rl
  have kI := kk_fresh (KK.refl s.heap) (Nat.le_refl _)
  have g1 := g.push (o := { cls := .type "list_iterator", data := .fields #[.ref a, .int 0 0] }) (t := s.toks)
  have k1 := KK.push s.heap { cls := .type "list_iterator", data := .fields #[.ref a, .int 0 0] }
  generalize hI : s.heap.objs.size = I at *
  generalize hH : s.heap.push { cls := .type "list_iterator", data := .fields #[.ref a, .int 0 0] } = H at *
  have hHs : H.objs.size = I + 1 := by rw [← hH, Heap.size_push, hI]
  refine wpAny_bind ?_
  show wpAny _ _ (newTuple []) _ _ _
  refine wpAny_newTuple ?_ (Nat.zero_le _)
  refine wpAny_bind ?_
  show wpAny _ _ (newTuple _) _ _ _
  refine wpAny_newTuple ?_ (by have : sizeLine = 2 ^ 24 := rfl; simp; omega)
  have k2 := KK.push H (packT [])
  have k3 := KK.push (H.push (packT [])) (packT [Float64.zero false, Float64.zero false])
  refine wpAny_pure ⟨plainId_quiet plain_fsuml _, ?_⟩
  refine fsum_loop (h₀ := s.heap) O hA S hn hb kI (fun i h st => let ⟨⟨o, ho, _⟩, _⟩ := st; ⟨o, ho⟩) (fun s' t g' k' => hQ _ s' g' k' (rp_flt.mpr ⟨t, rfl⟩)) ds.length 0 _ _ _ (by omega) ((g1.push (o := packT []) (t := s.toks)).push (t := s.toks)) (k1.trans (k2.trans k3)) (S.kk (S.kk S.start k2) k3)
    (Heap.get?_push_of_some _ (Heap.get?_push_size _ rfl)) (Heap.get?_push_size _ rfl) ?_ ?_
  · show H.objs.size ≠ I
    rw [hHs]; exact Nat.succ_ne_self I
  · show (H.push _).objs.size ≠ I
    rw [Heap.size_push, hHs]; exact Nat.ne_of_gt (Nat.lt_succ_of_lt (Nat.lt_succ_self I))
end
end Mine
end
/-! FGen -/
section
open PySem PySem.W PyProof.Rows
set_option linter.unusedVariables false
set_option maxRecDepth 10000
namespace Mine
open PySem.Float64
theorem oldK_keepOld {h₀ h h' : Heap} (K : OldK h₀ h) (hk : ∀ b o₀, h₀.get? b = some o₀ → ∀ o, h.get? b = some o → h'.get? b = some o) : OldK h₀ h' := by
  refine ⟨fun b o e => ?_, fun b o e => let ⟨o', ho'⟩ := K.there b o e; ⟨o', hk b o e o' ho'⟩⟩
  rcases K.old b o e with x | ⟨t, hc, vs, more, hv, x⟩ | ⟨rfl, hc, ⟨o', es, n, ho', r⟩, z⟩
  · exact .inl (hk _ _ e _ x)
  · exact .inr (.inl ⟨t, hc, vs, more, hv, hk _ _ e _ x⟩)
  · exact .inr (.inr ⟨rfl, hc, ⟨o', es, n, hk _ _ e _ ho', r⟩, fun key => by rw [OldK.staticOf_congr ((hk _ _ e _ ho').trans ho'.symm) key]; exact z key⟩)
section
variable {c : Cx} {A : Around} {env : Env} {ρ : Rho}
/-- some new places are written, some generator is moved -/
theorem G.moved (O : c.Ok) {s s' : Shared} {wr : List Addr} {g : Nat} (G₀ : G c s) (hm : Moved wr (GenOnlyQ g) s s') (hw : ∀ b ∈ wr, c.h₀.get? b = none ∧ ¬ c.av b) : G c s' := by
  have hk : ∀ b o₀, c.h₀.get? b = some o₀ → ∀ o, s.heap.get? b = some o → s'.heap.get? b = some o := fun b o₀ e₀ o e => hm.heap b o (fun q => by rw [(hw b q).1] at e₀; cases e₀) e
  have hne : ∀ a, (∃ o, c.h₀.get? a = some o) → a ∉ wr := fun a ⟨o, e⟩ q => by rw [(hw a q).1] at e; cases e
  refine ⟨oldK_keepOld G₀.old hk, fun b o n e => hk b o e _ (G₀.kk b o n e), hm.os.trans G₀.os, G₀.bare.movedS hm, ?_, fun a h => let ⟨o, e⟩ := G₀.av a h; ⟨o, hm.heap a o (fun q => (hw a q).2 h) e⟩⟩
  obtain ⟨ps, ⟨⟨o, vs, h1, h2, h3, h4⟩, h5⟩, o', vs', file, tf, flags, tg, inF, text, tt, op, a, r1, r2, r3, r4, r5, r6, b, r⟩ := G₀.tab
  obtain ⟨⟨ob, _, hob, _⟩, hP⟩ := O.tab
  have n1 := hne _ ⟨_, hob⟩
  have n2 := hne _ ⟨_, hP⟩
  exact ⟨ps, ⟨⟨o, vs, hm.heap _ _ n1 h1, h2, h3, h4⟩, hm.heap _ _ n2 h5⟩, o', vs', file, tf, flags, tg, inF, text, tt, op, hm.heap _ _ n1 a, r1, r2, r3, r4, r5, r6, hm.heap _ _ n2 b, r⟩
theorem Moved.kk {h₀ : Heap} {s s' : Shared} {wr : List Addr} {g : Nat} (k : KK h₀ s.heap) (hm : Moved wr (GenOnlyQ g) s s') (hw : ∀ b ∈ wr, ∀ o, NT o → h₀.get? b ≠ some o) : KK h₀ s'.heap :=
  fun b o n e => hm.heap b o (fun q => hw b q o n e) (k b o n e)
/-- a code object's place: old or new -/
theorem gen_code {E : Value → Shared → Prop} {s : Shared} {pos : Pos} {qn : Str} {scope : Scope} {Q : Value → Shared → Prop} (O : c.Ok) (hc : env.code = .ref c.cc) (g : G c s)
    (hQ : ∀ v h' tk, G c { s with heap := h', toks := tk } → Heap.ExtBut c.cP s.heap h' → KK s.heap h' → Q v { s with heap := h', toks := tk }) : wpAny (model c.prog c.w) A (genexprCode env pos qn scope) Q E s := by
  obtain ⟨ps, ht, hi⟩ := g.tab
  cases hf : codeAmong pos ps.toList with
  | some v => exact wpAny_genexprCode_hit hc hi hf (hQ v s.heap s.toks g (fun _ _ _ e => e) (KK.refl _))
  | none =>
    refine wpAny_genexprCodeX hc hi ht hf fun c' h' tk hx hc' hlt hi' hrec ht' _ => ?_
    have kk : KK s.heap h' := fun b o n e => hx b o (by rintro rfl; rw [ht.2] at e; cases e; exact n _ rfl) e
    refine hQ _ h' tk ⟨OldK.step_table g.old O.tab ht ht' hx O.nost, fun b o n e => kk b o n (g.kk b o n e), g.os, g.bare, ⟨_, ht', hi'⟩, fun a h => ?_⟩ hx kk
    obtain ⟨o, e⟩ := g.av a h
    by_cases q : a = c.cP
    · rw [q]; exact ⟨_, ht'.2⟩
    · exact ⟨o, hx a o q e⟩
theorem builtins_main {E : Value → Shared → Prop} {s : Shared} {r : Addr} {Q : Addr → Shared → Prop} (O : c.Ok) (g : G c s) (h : Q builtinsNs s) : wpAny (model c.prog c.w) A (builtinsFor mainGlobals r) Q E s := by
  obtain ⟨bm, ob, h1, h2, h3, h4, h5, h6⟩ := O.bm
  exact wpAny_builtinsFor (g.kk.ns O.g) h1 h2 (g.kk _ _ (NT.cls (by rw [h4]; nofun)) h3) h4 h5 h6 h
end
end Mine
end
/-! FGen2 -/
section
open PySem PySem.W PyProof.Rows
set_option linter.unusedVariables false
set_option maxRecDepth 10000
namespace Mine
open PySem.Float64
theorem genAt_move {prog : Program} {w : World} {A : Around} {a C : Addr} {g n j : Nat} {fp wr : List Addr} {pz : Nat → Bool} {F : Nat → Value → Prop} {s s' : Shared} (x : GenAt prog w A a g C fp wr pz n F j s) (hcs : cStatics ∈ fp)
    (hk : ∀ b ∈ a :: C :: fp, ∀ o, s.heap.get? b = some o → s'.heap.get? b = some o) (hg : s'.gens[g]? = s.gens[g]?) : GenAt prog w A a g C fp wr pz n F j s' := by
  obtain ⟨⟨o, nm, qn, ho, r⟩, ⟨mc, hns, hnn⟩, gs, hgs, hgo⟩ := x
  exact ⟨⟨o, nm, qn, hk a (List.mem_cons_self ..) o ho, r⟩, ⟨mc, hns.at' fun o e => hk cStatics (List.mem_cons_of_mem _ (List.mem_cons_of_mem _ hcs)) o e, hnn⟩, gs, hg.trans hgs,
    fun s'' hal => hgo s'' fun b hb o e => hal b hb o (hk b (List.mem_cons_of_mem _ hb) o e)⟩
section
variable {c : Cx} {A : Around} {env : Env} {ρ : Rho}
theorem G.gens {s : Shared} {gs : GenState} (g : G c s) (hb : gs.bare = true) : G c { s with gens := s.gens.push gs } := ⟨g.old, g.kk, g.os, g.bare.push hb, g.tab, g.av⟩
/-- what a generator's places are -/
structure GenOk (c : Cx) (h₀ h' : Heap) (a C I l cl : Addr) : Prop where
  fr : ∀ b ∈ [a, C, I], (∀ o, NT o → h₀.get? b ≠ some o) ∧ c.h₀.get? b = none ∧ ¬ c.av b
  ne : a ≠ C ∧ a ≠ I ∧ C ≠ I
  old : ∀ b ∈ [l, cl, cStatics], ∃ o, NT o ∧ h₀.get? b = some o
  here : ∀ b ∈ [a, C, I], ∃ o, NT o ∧ h'.get? b = some o
def genF (fl : List UInt64) (i : Nat) (y : Value) : Prop := ∃ x t, fl[i]? = some x ∧ y = .float x t
theorem sub_num {E : Value → Shared → Prop} {s : Shared} {h : Heap} {v : Value} {d : D} {n : Int} {b : UInt64} {t : Tok} {Q : Value → Shared → Prop} (hn : Nm d n) (r : Rp c.av h v d) (hQ : ∀ u tk, Q (.float (Float64.sub (numF d) b) u) { s with toks := tk }) :
    wpAny (model c.prog c.w) A (binaryOp .Sub v (.float b t)) Q E s := by
  cases hn with
  | int hi =>
    obtain ⟨u, rfl⟩ := rp_int.mp r
    exact sub_if_fits (by have : 2 ^ 40 ≤ 2 ^ 1023 := pow_ge _ _ (by decide); exact Nat.lt_of_lt_of_le hi this) (hQ _ _)
  | flt hx =>
    obtain ⟨u, rfl⟩ := rp_flt.mp r
    exact sub_float (hQ _ _)
theorem gen_make {x : Str} {px p1 p2 p3 p4 pos : Pos} {it xb : Str} {scope : Scope} {ds : List D} {ns : List Int} {b : UInt64} {s : Shared} {E : Value → Shared → Prop} {Q : Value → Shared → Prop}
    (O : c.Ok) (hA : Rm A 2) (hk : env.scope.kind = .function) (hgl : env.globals = mainGlobals) (hcode : env.code = .ref c.cc) (hit : env.kindOf it = some .local) (hitd : (it == ("__debug__" : Str)) = false) (hxd : (x == ("__debug__" : Str)) = false) (hbd : (xb == ("__debug__" : Str)) = false) (hbn : (xb == ("__classdict__" : Str)) = false) (hbc : env.kindOf xb = some .cell)
    (hsc : scope = { kind := .function, names := [(Str.ofString ".0", .local), (x, .local), (xb, .free)], isGenerator := true, isCoroutine := false, more := [] }) (hx0 : (x == Str.ofString ".0") = false) (hb0 : (xb == Str.ofString ".0") = false) (hbx : (xb == x) = false)
    (g : G c s) (hs : Has c env s.heap ρ) (hl : ρ.lookup it = some (.list ds)) (hb : ρ.lookup xb = some (.flt b)) (hn : Nms ds ns)
    (hQ : ∀ a C I l cl h' tk gs, gs.bare = true → G c { s with heap := h', gens := s.gens.push gs, toks := tk } → KK s.heap h' → (∀ b o, b ≠ c.cP → s.heap.get? b = some o → h'.get? b = some o) →
      GenOk c s.heap h' a C I l cl → Look env s.heap it (.ref l) → env.cells.lookup xb = some cl → GenAt c.prog c.w A.in1 a s.gens.size C [I, l, cl, cStatics] [I] (fun _ => true) ds.length (genF (ds.map fun d => Float64.sub (numF d) b)) 0 { s with heap := h', gens := s.gens.push gs, toks := tk } →
      Q (.ref a) { s with heap := h', gens := s.gens.push gs, toks := tk }) :
    wpAny (model c.prog c.w) A (eval (.GeneratorExp (.BinOp (.Name x p1) .Sub (.Name xb p2) p3) [⟨.Name x px, .Name it p4, [], 0⟩] scope pos) env) Q E s := by
  subst hsc
  -- the cell
  obtain ⟨vb, lb, rb⟩ := hs.get xb _ hb
  obtain ⟨tb, rfl⟩ := rp_flt.mp rb
  obtain ⟨cl, hcl, hcell⟩ : ∃ cl, env.cells.lookup xb = some cl ∧ s.heap.IsCell cl (some (.float b tb)) := by
    rcases lb with ⟨h, _⟩ | ⟨_, cc, h1, h2⟩
    · rw [hbc] at h; cases h
    · exact ⟨cc, h1, h2⟩
  -- the list
  obtain ⟨vl, ll, rl⟩ := hs.get it _ hl
  obtain ⟨l, items, rfl, hla, hll, rll⟩ := rp_list.mp rl
  obtain ⟨m, hm, hmv⟩ : ∃ m, s.heap.Ns env.locals m ∧ m it = some (.ref l) := by
    rcases ll with ⟨_, m, h1, h2⟩ | ⟨h, _⟩
    · exact ⟨m, h1, h2⟩
    · rw [hit] at h; rcases h with h | h <;> cases h
  have hclos : closureFor { kind := .function, names := [(Str.ofString ".0", .local), (x, .local), (xb, .free)], isGenerator := true, isCoroutine := false, more := [] } env = pure [(xb, cl)] := by
    rw [closureFor_is (by
      intro p hp hk
      simp only [List.mem_cons, List.not_mem_nil, or_false] at hp
      rcases hp with rfl | rfl | rfl
      · cases hk
      · cases hk
      · simp [hcl])]
    show pure [(xb, (env.cells.lookup xb).getD 0)] = _
    rw [hcl]; rfl
  have hlim : s.heap.NoLimit := g.kk.nolimit O.nolimit
  refine wpAny_GeneratorExp_make rfl hclos ?_ rfl rfl hA.lim ?_ (fun _ => rfl)
  · intro y hy
    simp only [List.mem_cons, List.not_mem_nil, or_false] at hy
    rcases hy with rfl | rfl | rfl <;> nofun
  refine wpAny_Name (wpAny_loadName_local hk hit hm hmv ?_) hitd
  refine wpAny_pyIter_list hll.isList ?_
  have S := src_list g hla hll rll
  have kI := kk_fresh (KK.refl s.heap) (Nat.le_refl _)
  have g1 := g.push (o := { cls := .type "list_iterator", data := .fields #[.ref l, .int 0 0] }) (t := s.toks)
  have k1 := KK.push s.heap { cls := .type "list_iterator", data := .fields #[.ref l, .int 0 0] }
  have e1 : ∀ b o, s.heap.get? b = some o → (s.heap.push { cls := .type "list_iterator", data := .fields #[.ref l, .int 0 0] }).get? b = some o := fun b o e => Heap.get?_push_of_some _ e
  have hI1 : ∃ o, NT o ∧ (s.heap.push { cls := .type "list_iterator", data := .fields #[.ref l, .int 0 0] }).get? s.heap.objs.size = some o := by
    refine ⟨_, ?_, Heap.get?_push_size _ rfl⟩
    exact NT.cls nofun
  generalize hI : s.heap.objs.size = I at *
  generalize hH : s.heap.push { cls := .type "list_iterator", data := .fields #[.ref l, .int 0 0] } = H at *
  refine ⟨k1.nolimit hlim, ?_⟩
  refine gen_code O hcode g1 fun cv h2 tk2 g2 hx2 k2 => ?_
  rw [hgl]
  refine builtins_main O g2 ?_
  intro h3 hn3 hs3
  dsimp only at hn3 hs3 ⊢
  have hcPn : ∀ b o, NT o → H.get? b = some o → b ≠ c.cP := by
    rintro b o n e rfl
    obtain ⟨ps, ht, _⟩ := g1.tab
    rw [ht.2] at e; cases e; exact n _ rfl
  generalize hC : h2.objs.size = C at *
  have hC0 := g2.fresh; have hCv := g2.navs
  dsimp only at hC0 hCv
  rw [hC] at hC0 hCv
  have g3 : G c { s with heap := h3, toks := tk2 } := (g2.push (o := { cls := .type "frame", data := .dict #[] }) (t := tk2)).same O hC0 hs3 (.inl hCv)
  have keep3 : ∀ b o, h2.get? b = some o → h3.get? b = some o := fun b o e => hs3.extBut b o (hC ▸ Nat.ne_of_lt (Heap.lt_size e)) (Heap.get?_push_of_some _ e)
  have hsz3 : h3.objs.size = C + 1 := by rw [hs3.1, Heap.size_push, hC]
  have hA0 := g3.fresh; have hAv := g3.navs
  dsimp only at hA0 hAv
  generalize ha : h3.objs.size = a at *
  have keep4 : ∀ b o, h3.get? b = some o → (h3.push { cls := .type "generator", data := .fields #[.int s.gens.size 0, .str "<genexpr>" (tk2 + 1), .str (env.qual ++ "<genexpr>") (tk2 + 1 + 1)] }).get? b = some o := fun b o e => Heap.get?_push_of_some _ e
  have kkall : KK s.heap (h3.push { cls := .type "generator", data := .fields #[.int s.gens.size 0, .str "<genexpr>" (tk2 + 1), .str (env.qual ++ "<genexpr>") (tk2 + 1 + 1)] }) := (k1.trans k2).trans (KK.full fun b o e => keep4 b o (keep3 b o e))
  have keepP : ∀ b o, b ≠ c.cP → s.heap.get? b = some o → (h3.push { cls := .type "generator", data := .fields #[.int s.gens.size 0, .str "<genexpr>" (tk2 + 1), .str (env.qual ++ "<genexpr>") (tk2 + 1 + 1)] }).get? b = some o := fun b o hb e => keep4 b o (keep3 b o (hx2 b o hb (e1 b o e)))
  have hCn : ∀ o, NT o → s.heap.get? C ≠ some o := fun o n e => by
    have := Heap.lt_size (k2 _ _ n (k1 _ _ n e)); rw [hC] at this; exact Nat.lt_irrefl _ this
  have han : ∀ o, NT o → s.heap.get? a ≠ some o := fun o n e => by
    have := Heap.lt_size (keep3 _ _ (k2 _ _ n (k1 _ _ n e))); rw [ha] at this; exact Nat.lt_irrefl _ this
  obtain ⟨oI, nI, hoI⟩ := hI1
  have hIC : C ≠ I := by
    rintro rfl
    have := Heap.lt_size (k2 _ _ nI hoI); rw [hC] at this; exact Nat.lt_irrefl _ this
  have haI : a ≠ I := by
    rintro rfl
    have := Heap.lt_size (keep3 _ _ (k2 _ _ nI hoI)); rw [ha] at this; exact Nat.lt_irrefl _ this
  have haC : a ≠ C := by rw [hsz3]; exact Nat.succ_ne_self C
  obtain ⟨mc, ⟨ost, est, epst, host, hdst, hrst⟩, hnst⟩ := id hlim
  obtain ⟨nl, hol⟩ := id hll
  obtain ⟨ocl, hocl, hdcl⟩ := id hcell
  have ntl : NT { cls := .type "list", data := .seq items nl } := NT.cls nofun
  have ntst : NT ost := NT.data (by rw [hdst]; nofun)
  have ntcl : NT ocl := NT.data (by rw [hdcl]; nofun)
  have gok : GenOk c s.heap (h3.push { cls := .type "generator", data := .fields #[.int s.gens.size 0, .str "<genexpr>" (tk2 + 1), .str (env.qual ++ "<genexpr>") (tk2 + 1 + 1)] }) a C I l cl := by
    refine ⟨fun b hb => ?_, ⟨haC, haI, hIC⟩, fun b hb => ?_, fun b hb => ?_⟩
    · simp only [List.mem_cons, List.not_mem_nil, or_false] at hb
      rcases hb with rfl | rfl | rfl
      · exact ⟨han, hA0, hAv⟩
      · exact ⟨hCn, hC0, hCv⟩
      · exact ⟨kI, S.old, S.nav⟩
    · simp only [List.mem_cons, List.not_mem_nil, or_false] at hb
      rcases hb with rfl | rfl | rfl
      · refine ⟨_, ?_, hol⟩
        exact NT.cls nofun
      · exact ⟨_, ntcl, hocl⟩
      · exact ⟨_, ntst, host⟩
    · simp only [List.mem_cons, List.not_mem_nil, or_false] at hb
      rcases hb with rfl | rfl | rfl
      · refine ⟨_, ?_, by rw [← ha]; exact Heap.get?_push_size _ rfl⟩
        exact NT.cls nofun
      · obtain ⟨o, es, ep, ho, hd, _⟩ := hn3
        exact ⟨o, NT.data (by rw [hd]; nofun), keep4 _ _ ho⟩
      · exact ⟨oI, nI, keep4 _ _ (keep3 _ _ (k2 _ _ nI hoI))⟩
  refine hQ a C I l cl _ _ _ rfl ((g3.push (t := _)).gens rfl) kkall keepP gok ll hcl ?_
  have hvfp : ∀ b ∈ [I, l, cl, cStatics], b ≠ C ∧ b ≠ a := by
    intro b hb
    simp only [List.mem_cons, List.not_mem_nil, or_false] at hb
    rcases hb with rfl | rfl | rfl | rfl
    · exact ⟨Ne.symm hIC, Ne.symm haI⟩
    · exact ⟨by rintro rfl; exact hCn _ ntl hol, by rintro rfl; exact han _ ntl hol⟩
    · exact ⟨by rintro rfl; exact hCn _ ntcl hocl, by rintro rfl; exact han _ ntcl hocl⟩
    · exact ⟨by intro q; exact hCn _ ntst (q ▸ host), by intro q; exact han _ ntst (q ▸ host)⟩
  have hlI : l ≠ I := by rintro rfl; exact kI _ ntl hol
  have hclI : cl ≠ I := by rintro rfl; exact kI _ ntcl hocl
  have hstI : cStatics ≠ I := by intro q; exact kI _ ntst (q ▸ host)
  have hfl : (ds.map fun d => Float64.sub (numF d) b).length = ds.length := by simp
  refine GenAt.freshD (A := A.in1) (elt := .BinOp (.Name x p1) .Sub (.Name xb p2) p3) (iter := .Name it p4) (px := px) (ifs := []) (pos := pos) (x := x) (I := I) (scope := { kind := .function, names := [(Str.ofString ".0", .local), (x, .local), (xb, .free)], isGenerator := true, isCoroutine := false, more := [] }) (cenv := genEnv { kind := .function, names := [(Str.ofString ".0", .local), (x, .local), (xb, .free)], isGenerator := true, isCoroutine := false, more := [] } [(xb, cl)] C cv builtinsNs env) (m := fun y => if y = ".0" then some (.ref I) else none) hA.hd
    (fun A' hA => (S.W A' hA).mono_fp fun b hb => by simp only [List.mem_cons, List.not_mem_nil, or_false] at hb ⊢; rcases hb with rfl | rfl <;> simp) (fun _ => true) _ ?_ rfl rfl (fun hm => (hvfp _ hm).1 rfl) ?_ ⟨_, _, _, by rw [← ha]; exact Heap.get?_push_size _ rfl, rfl, rfl, rfl⟩ (Array.getElem?_push_size ..) ?_ (hn3.push _) (kkall.nolimit hlim)
  · show List.lookup x [(Str.ofString ".0", NameKind.local), (x, NameKind.local), (xb, NameKind.free)] = _
    rw [List.lookup_cons, hx0, List.lookup_cons]; simp
  · refine ⟨fun A' E' i v s₂ m₂ _ _ _ _ _ _ _ => wpAny_pure ⟨rfl, s₂.heap, s₂.toks, rfl, fun _ _ e => e⟩, fun A' E' i v s₂ m₂ hA' _ _ hP _ hns hv hkp => ?_⟩
    obtain ⟨d, hd, rd⟩ := rll.get' (i := i) (v := v) (by simpa using hP)
    obtain ⟨n, _, hnd⟩ := hn.get hd
    have hcl2 : s₂.heap.IsCell cl (some (.float b tb)) := ⟨ocl, hkp cl (by simp) (by simpa using hclI) ocl (keep4 _ _ (keep3 _ _ (k2 _ _ ntcl (e1 _ _ hocl)))), hdcl⟩
    refine wpAny_BinOp (wpAny_Name (wpAny_loadName_local rfl ?_ hns hv ?_) hxd)
    · show List.lookup x [(Str.ofString ".0", NameKind.local), (x, NameKind.local), (xb, NameKind.free)] = _
      rw [List.lookup_cons, hx0, List.lookup_cons]; simp
    · refine wpAny_Name (wpAny_loadName_free rfl ?_ ?_ hcl2 ?_ hbn) hbd
      · show List.lookup xb [(Str.ofString ".0", NameKind.local), (x, NameKind.local), (xb, NameKind.free)] = _
        rw [List.lookup_cons, hb0, List.lookup_cons, hbx, List.lookup_cons]; simp
      · show List.lookup xb [(xb, cl)] = _
        simp
      · exact sub_num hnd rd fun u tk => ⟨⟨_, u, by rw [List.getElem?_map, hd]; rfl, rfl⟩, _, tk, rfl, fun _ _ e => e⟩
  · exact S.kk (S.kk (S.start) k2) (KK.full fun b o e => keep4 b o (keep3 b o e))
end
end Mine
end
/-! FProd -/
section
open PySem PySem.W PyProof.Rows
set_option linter.unusedVariables false
set_option maxRecDepth 10000
namespace Mine
open PySem.Float64
open PySem.Builtin.Math (dlSum dlMul tlFma tlToFloat)
theorem b53 : (0 : Int).natAbs < 2 ^ 53 := by decide
theorem dlSum_ok {a b : UInt64} {m n : Int} (ha : Fx a m) (hb : Fx b n) (h1 : m.natAbs < 2 ^ 53) (h2 : n.natAbs < 2 ^ 53) (h3 : (m + n).natAbs < 2 ^ 53) : Fx (dlSum a b).1 (m + n) ∧ Fx (dlSum a b).2 0 := by
  have e1 := fx_add ha hb h3
  have e2 := fx_sub e1 ha (by rw [show m + n - m = n by omega]; exact h2)
  rw [show m + n - m = n by omega] at e2
  have e3 := fx_sub e1 e2 (by rw [show m + n - n = m by omega]; exact h1)
  rw [show m + n - n = m by omega] at e3
  have e4 := fx_sub ha e3 (by rw [show m - m = 0 by omega]; exact b53)
  rw [show m - m = 0 by omega] at e4
  have e5 := fx_sub hb e2 (by rw [show n - n = 0 by omega]; exact b53)
  rw [show n - n = 0 by omega] at e5
  exact ⟨e1, fx_add e4 e5 b53⟩
def T3 (t : UInt64 × UInt64 × UInt64) (S : Int) : Prop := Fx t.1 S ∧ Fx t.2.1 0 ∧ Fx t.2.2 0
theorem tlFma_ok {x y : UInt64} {a b p S : Int} {t : UInt64 × UInt64 × UInt64} (hx : Fx x a) (hy : Fx y b) (hp : a * b = p * 2 ^ 8) (h1 : p.natAbs < 2 ^ 53) (ht : T3 t S) (h2 : S.natAbs < 2 ^ 53) (h3 : (S + p).natAbs < 2 ^ 53) : T3 (tlFma x y t) (S + p) := by
  obtain ⟨t1, t2, t3⟩ := ht
  have z := fx_mul hx hy hp h1
  have f := fx_fma hx hy (fx_neg z) hp
  obtain ⟨s1, s2⟩ := dlSum_ok t1 z h2 h1 h3
  obtain ⟨r1, r2⟩ := dlSum_ok t2 f b53 b53 b53
  obtain ⟨q1, q2⟩ := dlSum_ok r1 s2 b53 b53 b53
  exact ⟨s1, q1, fx_add (fx_add t3 r2 b53) q2 b53⟩
theorem tlToFloat_ok {t : UInt64 × UInt64 × UInt64} {S : Int} (ht : T3 t S) (h : S.natAbs < 2 ^ 53) : Fx (tlToFloat t) S := by
  obtain ⟨t1, t2, t3⟩ := ht
  obtain ⟨l1, l2⟩ := dlSum_ok t2 t1 b53 h (by rw [Int.zero_add]; exact h)
  have := fx_add (fx_add t3 l2 b53) l1 (by rw [show (0 : Int) + 0 + (0 + S) = S by omega]; exact h)
  rw [show (0 : Int) + 0 + (0 + S) = S by omega] at this
  exact this
/-- pairs, their products' values -/
inductive Prs : List UInt64 → List UInt64 → List Int → Prop
  | nil : Prs [] [] []
  | cons {x y : UInt64} {a b p : Int} {xs ys : List UInt64} {ps : List Int} (hx : Fx x a) (hy : Fx y b) (hp : a * b = p * 2 ^ 8) (t : Prs xs ys ps) : Prs (x :: xs) (y :: ys) (p :: ps)
def z3 : UInt64 × UInt64 × UInt64 := (Float64.zero false, Float64.zero false, Float64.zero false)
def triF (t : UInt64 × UInt64 × UInt64) (l : List (UInt64 × UInt64)) : UInt64 × UInt64 × UInt64 := l.foldl (fun t q => tlFma q.1 q.2 t) t
def spB (xs ys : List UInt64) : UInt64 := Float64.add (ofInt 0) (tlToFloat (triF z3 (xs.zip ys)))
theorem tri_ok {xs ys : List UInt64} {ps : List Int} (h : Prs xs ys ps) : ∀ {t : UInt64 × UInt64 × UInt64} {S : Int}, T3 t S → S.natAbs + absSum ps < 2 ^ 53 → T3 (triF t (xs.zip ys)) (S + ps.sum) := by
  induction h with
  | nil => intro t S h _; simpa [triF] using h
  | cons hx hy hp t ih =>
    intro t S ht hb
    rw [absSum_cons] at hb
    have := ih (tlFma_ok hx hy hp (by omega) ht (by omega) (by omega)) (by omega)
    simp only [List.zip_cons_cons, List.sum_cons]
    rw [← Int.add_assoc]
    exact this
theorem z3_ok : T3 z3 0 := ⟨fx_zero _, fx_zero _, fx_zero _⟩
theorem sum_le_abs : ∀ ps : List Int, ps.sum.natAbs ≤ absSum ps
  | [] => by simp [absSum]
  | p :: r => by have := sum_le_abs r; rw [absSum_cons, List.sum_cons]; omega
theorem spB_ok {xs ys : List UInt64} {ps : List Int} (h : Prs xs ys ps) (hb : absSum ps < 2 ^ 53) : Fx (spB xs ys) ps.sum := by
  have h1 := tri_ok h z3_ok (by simpa using hb)
  rw [Int.zero_add] at h1
  have := sum_le_abs ps
  have h2 := tlToFloat_ok h1 (by omega)
  have h3 := fx_ofInt (i := 0) (by decide)
  have h4 := fx_add h3 h2 (by rw [show (0 : Int) * 2 ^ 8 + ps.sum = ps.sum by omega]; omega)
  rw [show (0 : Int) * 2 ^ 8 + ps.sum = ps.sum by omega] at h4
  exact h4
theorem tri_fin {xs ys : List UInt64} {ps : List Int} (h : Prs xs ys ps) : ∀ {t : UInt64 × UInt64 × UInt64} {S : Int}, T3 t S → S.natAbs + absSum ps < 2 ^ 53 → ∀ {i : Nat} {x y : UInt64}, xs[i]? = some x → ys[i]? = some y → isFinite (tlFma x y (triF t ((xs.zip ys).take i))).1 = true := by
  induction h with
  | nil => intro t S _ _ i x y e; simp at e
  | cons hx hy hp t ih =>
    intro t S ht hb i x y ex ey
    rw [absSum_cons] at hb
    have hst := tlFma_ok hx hy hp (by omega) ht (by omega) (by omega)
    cases i with
    | zero =>
      simp at ex ey
      subst ex ey
      exact fx_finite hst.1
    | succ i =>
      simp at ex ey
      simp only [List.zip_cons_cons, List.take_succ_cons]
      exact ih hst (by omega) ex ey
theorem Prs.len {xs ys : List UInt64} {ps : List Int} (h : Prs xs ys ps) : xs.length = ys.length := by
  induction h with
  | nil => rfl
  | cons _ _ _ _ ih => simp [ih]
theorem pass_all (n : Nat) : passing (fun _ => true) n 0 = List.range n := by unfold passing; simp
section
variable {c : Cx} {A : Around}
theorem only_other {g g' : Nat} {a b : Array GenState} (h : GenOnlyQ g a b) (hne : g' ≠ g) : b[g']? = a[g']? := by
  rcases h with rfl | ⟨h, _⟩
  · rfl
  · exact h.2 g' hne
/-- two generators side by side -/
structure Two (c : Cx) (A : Around) (h₀ : Heap) (n : Nat) (fx fy : List UInt64) (a₁ a₂ C₁ C₂ I₁ I₂ l₁ l₂ k₁ k₂ : Addr) (g₁ g₂ : Nat) : Prop where
  gg : g₁ ≠ g₂
  n1 : a₁ ≠ C₁ ∧ a₁ ∉ [I₁, l₁, k₁, cStatics] ∧ cStatics ≠ C₁ ∧ cStatics ∉ [I₁]
  n2 : a₂ ≠ C₂ ∧ a₂ ∉ [I₂, l₂, k₂, cStatics] ∧ cStatics ≠ C₂ ∧ cStatics ∉ [I₂]
  s12 : ∀ b ∈ [a₂, C₂, I₂, l₂, k₂, cStatics], b ∉ [C₁, I₁]
  s21 : ∀ b ∈ [a₁, C₁, I₁, l₁, k₁, cStatics], b ∉ [C₂, I₂]
  fr : ∀ b ∈ [C₁, I₁, C₂, I₂], (∀ o, NT o → h₀.get? b ≠ some o) ∧ c.h₀.get? b = none ∧ ¬ c.av b
/-- where they stand -/
structure At2 (c : Cx) (A : Around) (h₀ : Heap) (n : Nat) (fx fy : List UInt64) (a₁ a₂ C₁ C₂ I₁ I₂ l₁ l₂ k₁ k₂ : Addr) (g₁ g₂ : Nat) (i j : Nat) (s : Shared) : Prop where
  g : G c s
  kk : KK h₀ s.heap
  x : GenAt c.prog c.w A a₁ g₁ C₁ [I₁, l₁, k₁, cStatics] [I₁] (fun _ => true) n (genF fx) i s
  y : GenAt c.prog c.w A a₂ g₂ C₂ [I₂, l₂, k₂, cStatics] [I₂] (fun _ => true) n (genF fy) j s
variable {h₀ : Heap} {n : Nat} {fx fy : List UInt64} {a₁ a₂ C₁ C₂ I₁ I₂ l₁ l₂ k₁ k₂ : Addr} {g₁ g₂ i j : Nat} {s s' : Shared} {E : Value → Shared → Prop} {Q : Option Value → Shared → Prop}
theorem At2.mx (O : c.Ok) (W : Two c A h₀ n fx fy a₁ a₂ C₁ C₂ I₁ I₂ l₁ l₂ k₁ k₂ g₁ g₂) (t : At2 c A h₀ n fx fy a₁ a₂ C₁ C₂ I₁ I₂ l₁ l₂ k₁ k₂ g₁ g₂ i j s) (hm : Moved (C₁ :: [I₁]) (GenOnlyQ g₁) s s') :
    G c s' ∧ KK h₀ s'.heap ∧ GenAt c.prog c.w A a₂ g₂ C₂ [I₂, l₂, k₂, cStatics] [I₂] (fun _ => true) n (genF fy) j s' :=
  ⟨t.g.moved O hm fun b hb => (W.fr b (List.mem_append_left [C₂, I₂] hb)).2, Moved.kk t.kk hm fun b hb => (W.fr b (List.mem_append_left [C₂, I₂] hb)).1,
    genAt_move t.y (by simp) (fun b hb o e => hm.heap b o (W.s12 b hb) e) (only_other hm.gens (Ne.symm W.gg))⟩
theorem At2.my (O : c.Ok) (W : Two c A h₀ n fx fy a₁ a₂ C₁ C₂ I₁ I₂ l₁ l₂ k₁ k₂ g₁ g₂) (t : At2 c A h₀ n fx fy a₁ a₂ C₁ C₂ I₁ I₂ l₁ l₂ k₁ k₂ g₁ g₂ i j s) (hm : Moved (C₂ :: [I₂]) (GenOnlyQ g₂) s s') :
    G c s' ∧ KK h₀ s'.heap ∧ GenAt c.prog c.w A a₁ g₁ C₁ [I₁, l₁, k₁, cStatics] [I₁] (fun _ => true) n (genF fx) i s' :=
  ⟨t.g.moved O hm fun b hb => (W.fr b (List.mem_append_right [C₁, I₁] hb)).2, Moved.kk t.kk hm fun b hb => (W.fr b (List.mem_append_right [C₁, I₁] hb)).1,
    genAt_move t.x (by simp) (fun b hb o e => hm.heap b o (W.s21 b hb) e) (only_other hm.gens W.gg)⟩
theorem At2.keep {h' : Heap} {tk : Nat} (t : At2 c A h₀ n fx fy a₁ a₂ C₁ C₂ I₁ I₂ l₁ l₂ k₁ k₂ g₁ g₂ i j s) (k : ∀ b o, s.heap.get? b = some o → h'.get? b = some o) : At2 c A h₀ n fx fy a₁ a₂ C₁ C₂ I₁ I₂ l₁ l₂ k₁ k₂ g₁ g₂ i j { s with heap := h', toks := tk } :=
  ⟨t.g.keepH k, t.kk.trans (KK.full k), genAt_move t.x (by simp) (fun b _ o e => k b o e) rfl, genAt_move t.y (by simp) (fun b _ o e => k b o e) rfl⟩
theorem next_x (O : c.Ok) (hA : A.handled = none) (hr : A.depth < recursionLimit) (W : Two c A h₀ n fx fy a₁ a₂ C₁ C₂ I₁ I₂ l₁ l₂ k₁ k₂ g₁ g₂) (t : At2 c A h₀ n fx fy a₁ a₂ C₁ C₂ I₁ I₂ l₁ l₂ k₁ k₂ g₁ g₂ i j s) (hi : i < n) {T : Addr} {o : Obj} (hT : s.heap.get? T = some o) (hT1 : T ∉ [C₁, I₁])
    (hQ : ∀ x u s', fx[i]? = some x → At2 c A h₀ n fx fy a₁ a₂ C₁ C₂ I₁ I₂ l₁ l₂ k₁ k₂ g₁ g₂ (i + 1) j s' → s'.heap.get? T = some o → Q (some (.float x u)) s') : wpAny (model c.prog c.w) A (pyNext (.ref a₁)) Q E s := by
  have WS := WalksS.genexpQ (prog := c.prog) (w := c.w) hA a₁ g₁ C₁ [I₁, l₁, k₁, cStatics] [I₁] (fun _ => true) n (genF fx) W.n1.1 W.n1.2.1 (by simp) hr (by simp) W.n1.2.2.1 W.n1.2.2.2
  refine WS.item i s _ _ (by rw [pass_all]; simpa using hi) t.x fun v s' hP hst hm => ?_
  obtain ⟨i', h1, x, u, hx, rfl⟩ := hP
  rw [pass_all, List.getElem?_range hi] at h1
  cases h1
  obtain ⟨e1, e2, e3⟩ := t.mx O W hm
  exact hQ x u s' hx ⟨e1, e2, hst, e3⟩ (hm.heap T o hT1 hT)
theorem next_y (O : c.Ok) (hA : A.handled = none) (hr : A.depth < recursionLimit) (W : Two c A h₀ n fx fy a₁ a₂ C₁ C₂ I₁ I₂ l₁ l₂ k₁ k₂ g₁ g₂) (t : At2 c A h₀ n fx fy a₁ a₂ C₁ C₂ I₁ I₂ l₁ l₂ k₁ k₂ g₁ g₂ i j s) (hi : j < n) {T : Addr} {o : Obj} (hT : s.heap.get? T = some o) (hT1 : T ∉ [C₂, I₂])
    (hQ : ∀ x u s', fy[j]? = some x → At2 c A h₀ n fx fy a₁ a₂ C₁ C₂ I₁ I₂ l₁ l₂ k₁ k₂ g₁ g₂ i (j + 1) s' → s'.heap.get? T = some o → Q (some (.float x u)) s') : wpAny (model c.prog c.w) A (pyNext (.ref a₂)) Q E s := by
  have WS := WalksS.genexpQ (prog := c.prog) (w := c.w) hA a₂ g₂ C₂ [I₂, l₂, k₂, cStatics] [I₂] (fun _ => true) n (genF fy) W.n2.1 W.n2.2.1 (by simp) hr (by simp) W.n2.2.2.1 W.n2.2.2.2
  refine WS.item j s _ _ (by rw [pass_all]; simpa using hi) t.y fun v s' hP hst hm => ?_
  obtain ⟨i', h1, x, u, hx, rfl⟩ := hP
  rw [pass_all, List.getElem?_range hi] at h1
  cases h1
  obtain ⟨e1, e2, e3⟩ := t.my O W hm
  exact hQ x u s' hx ⟨e1, e2, e3, hst⟩ (hm.heap T o hT1 hT)
theorem done_x (O : c.Ok) (hA : A.handled = none) (hr : A.depth < recursionLimit) (W : Two c A h₀ n fx fy a₁ a₂ C₁ C₂ I₁ I₂ l₁ l₂ k₁ k₂ g₁ g₂) (t : At2 c A h₀ n fx fy a₁ a₂ C₁ C₂ I₁ I₂ l₁ l₂ k₁ k₂ g₁ g₂ n n s)
    (hQ : ∀ s', G c s' → KK h₀ s'.heap → GenAt c.prog c.w A a₂ g₂ C₂ [I₂, l₂, k₂, cStatics] [I₂] (fun _ => true) n (genF fy) n s' → Q none s') : wpAny (model c.prog c.w) A (pyNext (.ref a₁)) Q E s := by
  have WS := WalksS.genexpQ (prog := c.prog) (w := c.w) hA a₁ g₁ C₁ [I₁, l₁, k₁, cStatics] [I₁] (fun _ => true) n (genF fx) W.n1.1 W.n1.2.1 (by simp) hr (by simp) W.n1.2.2.1 W.n1.2.2.2
  refine WS.done s _ _ (by rw [pass_all, List.length_range]; exact t.x) fun s' hm => ?_
  obtain ⟨e1, e2, e3⟩ := t.mx O W hm
  exact hQ s' e1 e2 e3
theorem done_y (O : c.Ok) (hA : A.handled = none) (hr : A.depth < recursionLimit) (W : Two c A h₀ n fx fy a₁ a₂ C₁ C₂ I₁ I₂ l₁ l₂ k₁ k₂ g₁ g₂) (g : G c s) (kk : KK h₀ s.heap) (t : GenAt c.prog c.w A a₂ g₂ C₂ [I₂, l₂, k₂, cStatics] [I₂] (fun _ => true) n (genF fy) n s)
    (hQ : ∀ s', G c s' → KK h₀ s'.heap → Q none s') : wpAny (model c.prog c.w) A (pyNext (.ref a₂)) Q E s := by
  have WS := WalksS.genexpQ (prog := c.prog) (w := c.w) hA a₂ g₂ C₂ [I₂, l₂, k₂, cStatics] [I₂] (fun _ => true) n (genF fy) W.n2.1 W.n2.2.1 (by simp) hr (by simp) W.n2.2.2.1 W.n2.2.2.2
  refine WS.done s _ _ (by rw [pass_all, List.length_range]; exact t) fun s' hm => ?_
  exact hQ s' (g.moved O hm fun b hb => (W.fr b (List.mem_append_right [C₁, I₁] hb)).2) (Moved.kk kk hm fun b hb => (W.fr b (List.mem_append_right [C₁, I₁] hb)).1)
end
section
variable {c : Cx} {A : Around}
variable {h₀ : Heap} {n : Nat} {fx fy : List UInt64} {a₁ a₂ C₁ C₂ I₁ I₂ l₁ l₂ k₁ k₂ : Addr} {g₁ g₂ : Nat}
def tup3 (t : UInt64 × UInt64 × UInt64) : Obj := { cls := .type "tuple", data := .seq [rawInt t.1.toNat, rawInt t.2.1.toNat, rawInt t.2.2.toNat].toArray }
theorem back64 (x : UInt64) : ((x.toNat : Int)).toNat.toUInt64 = x := by
  show x.toNat.toUInt64 = x
  simp
theorem sp_loop (O : c.Ok) (hA : A.handled = none) (hr : A.in1.depth < recursionLimit) (W : Two c A.in1 h₀ n fx fy a₁ a₂ C₁ C₂ I₁ I₂ l₁ l₂ k₁ k₂ g₁ g₂) {ps : List Int} (hp : Prs fx fy ps) (hb : absSum ps < 2 ^ 53) (hx : fx.length = n) (hn : 0 < n) {R : Result → Shared → Prop}
    (hR : ∀ s' t, G c s' → KK h₀ s'.heap → R (.ok (.ret (.float (spB fx fy) t))) s') :
    ∀ (k i : Nat) (s : Shared) (T : Addr) (io fu : Bool) (tk : Tok), i + k = n → At2 c A.in1 h₀ n fx fy a₁ a₂ C₁ C₂ I₁ I₂ l₁ l₂ k₁ k₂ g₁ g₂ i i s → s.heap.get? T = some (tup3 (triF z3 ((fx.zip fy).take i))) → (∀ b ∈ [C₁, I₁, C₂, I₂], b < T) → (i ≠ 0 → io = false ∧ fu = true) →
      codeAny (model c.prog c.w) A (.builtin "math.sumprod.loop" ⟨[.ref a₁, .ref a₂, .int 0 tk, .bool io, rawInt 0, .bool false, .bool true, .ref T, .bool fu], []⟩) R s
  | 0, i, s, T, io, fu, tk, hk, t, hT, hlo, hio => by
    have hi : i = n := by omega
    subst hi
    obtain ⟨rfl, rfl⟩ := hio (by omega)
    refine codeAny_builtin entry_spl ?_
    rw [Around.under_plainId plain_spl _]
    unfold Builtin.«math.sumprod.loop»
    dsimp only [rawInt]
    refine wpAny_bind (wpAny_seqItems hT rfl ?_)
    dsimp only [Option.getD_some]
    refine wpAny_bind (done_x O hA hr W t fun s₁ g₁' kk₁ ty => ?_)
    refine wpAny_bind (wpAny_holding (done_y O hA hr W g₁' kk₁ ty fun s₂ g₂' kk₂ => ?_))
    simp only [Option.isSome_none, bne_self_eq_false, Bool.false_eq_true, if_false, if_true]
    refine wpAny_bind (wpAny_rule ?_)
    refine wpAny_bind (wpAny_mkFloat ?_)
    rw [back64, back64, back64]
    refine wpAny_bind (wpAny_holding (add_if_fits (by show (0 : Int).natAbs < _; exact Nat.two_pow_pos _) ?_))
    refine wpAny_pure ?_
    have e : (fx.zip fy).take i = fx.zip fy := List.take_of_length_le (by rw [List.length_zip]; omega)
    rw [e]
    exact hR _ _ (g₂'.tok) kk₂
  | k + 1, i, s, T, io, fu, tk, hk, t, hT, hlo, hio => by
    have hlt : i < n := by omega
    have hT1 : T ∉ [C₁, I₁] := fun q => Nat.lt_irrefl _ (hlo T (List.mem_append_left [C₂, I₂] q))
    have hT2 : T ∉ [C₂, I₂] := fun q => Nat.lt_irrefl _ (hlo T (List.mem_append_right [C₁, I₁] q))
    refine codeAny_builtin entry_spl ?_
    rw [Around.under_plainId plain_spl _]
    unfold Builtin.«math.sumprod.loop»
    dsimp only [rawInt]
    refine wpAny_bind (wpAny_seqItems hT rfl ?_)
    dsimp only [Option.getD_some]
    refine wpAny_bind (next_x O hA hr W t hlt hT hT1 fun x u s₁ hx1 t₁ hT₁ => ?_)
    refine wpAny_bind (wpAny_holding (next_y O hA hr W t₁ hlt hT₁ hT2 fun y u' s₂ hy1 t₂ hT₂ => ?_))
    simp only [Option.isSome_some, bne_self_eq_false, Bool.false_eq_true, if_false]
    have hfin := tri_fin hp z3_ok (by simpa using hb) hx1 hy1
    have hnext : triF z3 ((fx.zip fy).take (i + 1)) = tlFma x y (triF z3 ((fx.zip fy).take i)) := by
      have hz : (fx.zip fy)[i]? = some (x, y) := by rw [List.getElem?_zip_eq_some]; exact ⟨hx1, hy1⟩
      unfold triF
      rw [List.take_add_one, List.foldl_append, hz]
      rfl
    rw [back64, back64, back64]
    simp only [Prod.eta, Bool.or_true, if_true, hfin]
    have hTlt := Heap.lt_size hT₂
    have hsl : sizeLine = 2 ^ 24 := rfl
    have fin : wpAny (model c.prog c.w) A.in1 (newTuple [Value.int ((tlFma x y (triF z3 ((fx.zip fy).take i))).1.toNat) 0, Value.int ((tlFma x y (triF z3 ((fx.zip fy).take i))).2.1.toNat) 0, Value.int ((tlFma x y (triF z3 ((fx.zip fy).take i))).2.2.toNat) 0] >>= fun t =>
        (again (.builtin "math.sumprod.loop" ⟨[.ref a₁, .ref a₂, .int 0 tk, .bool false, .int 0 0, .bool false, .bool true, t, .bool true], []⟩) : Sem Fin))
        (fun fin s' => match fin with | .done f => R (.ok f) s' | .again c' => c'.quiet = true ∧ codeAny (model c.prog c.w) A c' R s') (fun e s' => R (.error e) s') s₂ := by
      refine wpAny_bind (wpAny_newTuple ?_ (by simp; omega))
      refine wpAny_pure ⟨plainId_quiet plain_spl _, ?_⟩
      refine sp_loop O hA hr W hp hb hx hn hR k (i + 1) _ _ false true tk (by omega) (t₂.keep fun b o e => Heap.get?_push_of_some _ e) ?_ (fun b hb' => Nat.lt_trans (hlo b hb') hTlt) (fun _ => ⟨rfl, rfl⟩)
      rw [hnext]
      exact Heap.get?_push_size _ rfl
    split
    · exact wpAny_bind (wpAny_rule fin)
    · exact fin
end
end Mine
end
/-! FCov -/
section
open PySem PySem.W PyProof.Rows
set_option linter.unusedVariables false
set_option maxRecDepth 10000
namespace Mine
open PySem.Float64
section
variable {c : Cx} {A : Around} {env : Env} {ρ : Rho}
theorem nt_there {h : Heap} {s : Shared} {b : Addr} {o : Obj} (g : G c s) (n : NT o) (e : s.heap.get? b = some o) : b ≠ c.cP := by
  rintro rfl
  obtain ⟨ps, ht, _⟩ := g.tab
  rw [ht.2] at e; cases e; exact n _ rfl
theorem ev_sumprod {x y xb yb i1 i2 : Str} {p pos : Pos} {p1 p2 p3 p4 px pe q1 q2 q3 q4 qx qe : Pos} {ds es : List D} {ms ns ps : List Int} {b d : UInt64} {sc1 sc2 : Scope} {n : Nat}
    (O : c.Ok) (hA : Rm A 2) (ok : EnvOk env) (hcode : env.code = .ref c.cc)
    (hit : env.kindOf i1 = some .local) (hitd : (i1 == ("__debug__" : Str)) = false) (hxd : (x == ("__debug__" : Str)) = false) (hbd : (xb == ("__debug__" : Str)) = false) (hbn : (xb == ("__classdict__" : Str)) = false) (hbc : env.kindOf xb = some .cell)
    (hsc : sc1 = { kind := .function, names := [(Str.ofString ".0", .local), (x, .local), (xb, .free)], isGenerator := true, isCoroutine := false, more := [] }) (hx0 : (x == Str.ofString ".0") = false) (hb0 : (xb == Str.ofString ".0") = false) (hbx : (xb == x) = false)
    (hit' : env.kindOf i2 = some .local) (hitd' : (i2 == ("__debug__" : Str)) = false) (hxd' : (y == ("__debug__" : Str)) = false) (hbd' : (yb == ("__debug__" : Str)) = false) (hbn' : (yb == ("__classdict__" : Str)) = false) (hbc' : env.kindOf yb = some .cell)
    (hsc' : sc2 = { kind := .function, names := [(Str.ofString ".0", .local), (y, .local), (yb, .free)], isGenerator := true, isCoroutine := false, more := [] }) (hx0' : (y == Str.ofString ".0") = false) (hb0' : (yb == Str.ofString ".0") = false) (hbx' : (yb == y) = false)
    (hf : env.kindOf (Str.ofString "sumprod") = some .globalImplicit) (hv : c.mg (Str.ofString "sumprod") = some (.builtin "math.sumprod"))
    (hl : ρ.lookup i1 = some (.list ds)) (hb : ρ.lookup xb = some (.flt b)) (hl' : ρ.lookup i2 = some (.list es)) (hb' : ρ.lookup yb = some (.flt d)) (hn : Nms ds ms) (hn' : Nms es ns) (h1 : ds.length = n) (h2 : es.length = n) (h0 : 0 < n)
    (hp : Prs (ds.map fun v => Float64.sub (numF v) b) (es.map fun v => Float64.sub (numF v) d) ps) (hps : absSum ps < 2 ^ 53) :
    Ev c A env ρ (eval (.Call (.Name (Str.ofString "sumprod") p) [.GeneratorExp (.BinOp (.Name x p1) .Sub (.Name xb p2) p3) [⟨.Name x px, .Name i1 p4, [], 0⟩] sc1 pe, .GeneratorExp (.BinOp (.Name y q1) .Sub (.Name yb q2) q3) [⟨.Name y qx, .Name i2 q4, [], 0⟩] sc2 qe] [] pos) env)
      (.flt (spB (ds.map fun v => Float64.sub (numF v) b) (es.map fun v => Float64.sub (numF v) d))) := by
  refine ⟨fun s Q E g hs hQ => ?_⟩
  refine wpAny_Call_NameR (load_global O ok g hf rfl (.inl hv) ?_)
  refine callWith_builtin1 ?_ (star_cons rfl) (star_plain rfl)
  rw [star_cons rfl]
  refine Calls.spliced_cons (x := eval (.GeneratorExp (.BinOp (.Name x p1) .Sub (.Name xb p2) p3) [⟨.Name x px, .Name i1 p4, [], 0⟩] sc1 pe) env) ?_
  refine gen_make O hA ok.kind ok.glob hcode hit hitd hxd hbd hbn hbc hsc hx0 hb0 hbx g hs hl hb hn fun a₁ C₁ I₁ l₁ k₁ H₁ tk₁ gs₁ hgs₁ g₁ kk₁ keep₁ G₁ lk₁ ck₁ at₁ => ?_
  rw [star_cons rfl]
  refine Calls.spliced_cons (x := eval (.GeneratorExp (.BinOp (.Name y q1) .Sub (.Name yb q2) q3) [⟨.Name y qx, .Name i2 q4, [], 0⟩] sc2 qe) env) ?_
  refine gen_make O hA ok.kind ok.glob hcode hit' hitd' hxd' hbd' hbn' hbc' hsc' hx0' hb0' hbx' g₁ (hs.mono kk₁) hl' hb' hn' fun a₂ C₂ I₂ l₂ k₂ H₂ tk₂ gs₂ hgs₂ g₂ kk₂ keep₂ G₂ lk₂ ck₂ at₂ => ?_
  dsimp only at kk₂ keep₂ G₂ lk₂ at₂ g₂ ⊢
  refine Calls.spliced_nil ?_
  -- the places
  have oldS : ∀ b ∈ [l₁, k₁, cStatics], ∃ o, NT o ∧ s.heap.get? b = some o := G₁.old
  have hl2 : ∃ o, NT o ∧ s.heap.get? l₂ = some o := by
    obtain ⟨v, lv, rv⟩ := hs.get i2 _ hl'
    obtain ⟨l', items, rfl, _, ⟨nn, ho⟩, _⟩ := rp_list.mp rv
    have e : l' = l₂ := by
      have lv' := lv.mono kk₁
      rcases lv' with ⟨_, m1, hm1, hv1⟩ | ⟨q, _⟩
      · rcases lk₂ with ⟨_, m2, hm2, hv2⟩ | ⟨q, _⟩
        · obtain ⟨o1, es1, ep1, ho1, hd1, _, hf1⟩ := hm1
          obtain ⟨o2, es2, ep2, ho2, hd2, _, hf2⟩ := hm2
          rw [ho1] at ho2; cases ho2; rw [hd1] at hd2; cases hd2
          rw [← hf1] at hv1; rw [← hf2] at hv2
          rw [hv1] at hv2; cases hv2; rfl
        · rw [hit'] at q; rcases q with q | q <;> cases q
      · rw [hit'] at q; rcases q with q | q <;> cases q
    subst e
    refine ⟨_, ?_, ho⟩
    exact NT.cls nofun
  have hk2 : ∃ o, NT o ∧ s.heap.get? k₂ = some o := by
    obtain ⟨v, o, ho, hd⟩ := hs.own.cells yb k₂ ck₂
    exact ⟨o, NT.data (by rw [hd]; nofun), ho⟩
  have old2S : ∀ b ∈ [l₂, k₂, cStatics], ∃ o, NT o ∧ s.heap.get? b = some o := by
    intro b hb
    simp only [List.mem_cons, List.not_mem_nil, or_false] at hb
    rcases hb with rfl | rfl | rfl
    · exact hl2
    · exact hk2
    · exact oldS _ (by simp)
  have ne1 : ∀ b, (∃ o, NT o ∧ s.heap.get? b = some o) → b ∉ [a₁, C₁, I₁] := fun b ⟨o, no, e⟩ hb => (G₁.fr b hb).1 o no e
  have in1 : ∀ b ∈ [a₁, C₁, I₁, l₁, k₁, cStatics], ∃ o, NT o ∧ H₁.get? b = some o := by
    intro b hb
    rcases List.mem_append.mp (show b ∈ [a₁, C₁, I₁] ++ [l₁, k₁, cStatics] from hb) with q | q
    · exact G₁.here b q
    · obtain ⟨o, no, e⟩ := oldS b q; exact ⟨o, no, kk₁ b o no e⟩
  have ne2 : ∀ b, (∃ o, NT o ∧ H₁.get? b = some o) → b ∉ [a₂, C₂, I₂] := fun b ⟨o, no, e⟩ hb => (G₂.fr b hb).1 o no e
  have W : Two c A.in1 s.heap n (ds.map fun v => Float64.sub (numF v) b) (es.map fun v => Float64.sub (numF v) d) a₁ a₂ C₁ C₂ I₁ I₂ l₁ l₂ k₁ k₂ s.gens.size (s.gens.push gs₁).size := by
    refine ⟨by simp, ⟨G₁.ne.1, ?_, ?_, ?_⟩, ⟨G₂.ne.1, ?_, ?_, ?_⟩, ?_, ?_, ?_⟩
    · intro q
      rcases List.mem_cons.mp q with q | q
      · exact G₁.ne.2.1 q
      · exact ne1 a₁ (oldS _ q) (by simp)
    · intro q; exact ne1 cStatics (oldS _ (by simp)) (by rw [q]; simp)
    · intro q; exact ne1 cStatics (oldS _ (by simp)) (by simp at q; rw [q]; simp)
    · intro q
      rcases List.mem_cons.mp q with q | q
      · exact G₂.ne.2.1 q
      · exact ne2 a₂ (G₂.old _ q) (by simp)
    · intro q; exact ne2 cStatics (G₂.old _ (by simp)) (by rw [q]; simp)
    · intro q; exact ne2 cStatics (G₂.old _ (by simp)) (by simp at q; rw [q]; simp)
    · intro b hb q
      rcases List.mem_append.mp (show b ∈ [a₂, C₂, I₂] ++ [l₂, k₂, cStatics] from hb) with r | r
      · exact ne2 b (in1 b (by simp at q ⊢; rcases q with q | q <;> simp [q])) r
      · exact ne1 b (old2S b r) (List.mem_cons_of_mem _ q)
    · intro b hb q
      exact ne2 b (in1 b hb) (List.mem_cons_of_mem _ q)
    · intro b hb
      rcases List.mem_append.mp (show b ∈ [C₁, I₁] ++ [C₂, I₂] from hb) with r | r
      · exact G₁.fr b (List.mem_cons_of_mem _ r)
      · obtain ⟨f1, f2, f3⟩ := G₂.fr b (List.mem_cons_of_mem _ r)
        exact ⟨fun o no e => f1 o no (kk₁ b o no e), f2, f3⟩
  -- the first one stands still
  have at₁' : GenAt c.prog c.w A.in1 a₁ s.gens.size C₁ [I₁, l₁, k₁, cStatics] [I₁] (fun _ => true) ds.length (genF (ds.map fun v => Float64.sub (numF v) b)) 0 { s with heap := H₂, gens := (s.gens.push gs₁).push gs₂, toks := tk₂ } := by
    refine genAt_move at₁ (by simp) (fun b hb o e => ?_) ?_
    · obtain ⟨o', no', e'⟩ := in1 b hb
      exact keep₂ b o (nt_there g₁ no' e' (h := H₁)) e
    · show ((s.gens.push gs₁).push gs₂)[s.gens.size]? = (s.gens.push gs₁)[s.gens.size]?
      rw [Array.getElem?_push, if_neg (by simp)]
  subst h1
  rw [h2] at at₂
  have t0 : At2 c A.in1 s.heap ds.length (ds.map fun v => Float64.sub (numF v) b) (es.map fun v => Float64.sub (numF v) d) a₁ a₂ C₁ C₂ I₁ I₂ l₁ l₂ k₁ k₂ s.gens.size (s.gens.push gs₁).size 0 0 { s with heap := H₂, gens := (s.gens.push gs₁).push gs₂, toks := tk₂ } :=
    ⟨g₂, kk₁.trans kk₂, at₁', at₂⟩
  refine call_function_tree kind_sp plain_sp entry_sp (args_sp _ _) ?_
  unfold Builtin.«math.sumprod»
  refine wpAny_bind (wpAny_of_eq (a := [.ref a₁, .ref a₂]) rfl ?_)
  dsimp only
  refine wpAny_bind (wpAny_pyIter_gen t0.x.1 ?_)
  refine wpAny_bind (wpAny_holding (wpAny_pyIter_gen t0.y.1 ?_))
  refine wpAny_bind (wpAny_mkInt ?_)
  refine wpAny_bind (wpAny_newTuple ?_ (by have : sizeLine = 2 ^ 24 := rfl; simp; omega))
  refine wpAny_pure ⟨plainId_quiet plain_spl _, ?_⟩
  refine sp_loop O hA.hd (by have := hA.lim; exact this) W hp hps (by simp) h0 (fun s' t g' k' => hQ _ s' g' k' (rp_flt.mpr ⟨t, rfl⟩)) ds.length 0 _ _ true false _ (by omega) (t0.keep fun b o e => Heap.get?_push_of_some _ e) (Heap.get?_push_size _ rfl) (fun b hb => ?_) (fun q => absurd rfl q)
  rcases List.mem_append.mp (show b ∈ [C₁, I₁] ++ [C₂, I₂] from hb) with r | r
  · obtain ⟨o, no, e⟩ := G₁.here b (List.mem_cons_of_mem _ r)
    exact Heap.lt_size (kk₂ b o no e)
  · obtain ⟨o, no, e⟩ := G₂.here b (List.mem_cons_of_mem _ r)
    exact Heap.lt_size e
end
end Mine
end
/-! FCov2 -/
section
open PySem PySem.W PyProof.Rows
set_option linter.unusedVariables false
set_option maxRecDepth 10000
namespace Mine
open PySem.Float64
noncomputable def barB (ds : List D) : UInt64 := Float64.div (fsumB (ds.map numF)) (ofInt ds.length)
noncomputable def covB (ds es : List D) : UInt64 := Float64.div (spB (ds.map fun v => Float64.sub (numF v) (barB ds)) (es.map fun v => Float64.sub (numF v) (barB es))) (ofInt ((ds.length : Int) - 1))
section
variable {c : Cx} {A : Around}
theorem bi_len (O : c.Ok) : c.mg "len" = none ∧ c.mb "len" = some (.builtin "len") := ⟨mg_is O rfl, mb_of O (by decide) rfl⟩
theorem small_int {n : Nat} (h0 : 0 < n) (h : n ≤ 1000) : isInf (ofInt (n : Int)) = false ∧ isZero (ofInt (n : Int)) = false := by
  have h1 := fx_ofInt (i := (n : Int)) (by simp; omega)
  refine ⟨fx_inf h1, ?_⟩
  rw [fx_isZero h1]
  simp
  omega
set_option maxHeartbeats 1000000 in
theorem fn_cov (O : c.Ok) (hA : Rm A 4) {ds es : List D} {ms ns ps : List Int} {n : Nat} (h1 : ds.length = n) (h2 : es.length = n) (h0 : 2 ≤ n) (hn : n ≤ 1000) (hd : Nms ds ms) (he : Nms es ns) (b1 : absSum ms < 2 ^ 53) (b2 : absSum ns < 2 ^ 53)
    (hp : Prs (ds.map fun v => Float64.sub (numF v) (barB ds)) (es.map fun v => Float64.sub (numF v) (barB es)) ps) (hps : absSum ps < 2 ^ 53) :
    Fn c A (.ref 80) [.list ds, .list es] (.flt (covB ds es)) := by
  refine fn_call (fd := fdAt 80) (ps := [Str.ofString "x", Str.ofString "y"]) (k := 3) O hA (O.K 80 _ rfl) rfl rfl ⟨79, _, _, _, rfl, O.K 79 _ rfl, nofun, rfl, rfl⟩ ?_ rfl (by decide) rfl rfl ?_ rfl rfl rfl
  · intro vals hv
    match vals, hv with
    | [x, y], _ => rfl
  · intro L hR
    have ok : EnvOk (callEnvC (fdAt 80) L 80) := callEnv_ok rfl rfl rfl
    have hcode : (callEnvC (fdAt 80) L 80).code = .ref c.cc := by rw [O.cc79]; rfl
    refine ex_next (ex_Assign (d := .int n) O rfl (.inl rfl) ((ev_callB O ok rfl rfl (.inr (bi_len O)) (evl_cons (ev_Name rfl rfl rfl rfl) evl_nil) (fn_len_list (xs := ds) (by omega))).cast (by rw [h1])) rfl) ?_
    refine ex_next (ex_If (tv := false) ((tv_Compare (ev_callB O ok rfl rfl (.inr (bi_len O)) (evl_cons (ev_Name rfl rfl rfl rfl) evl_nil) (fn_len_list (xs := es) (by omega))) (ev_Name rfl rfl rfl rfl) cmp_ne_int rfl).cast (by rw [h2]; simp)) nofun (fun _ => ex_nil)) ?_
    refine ex_next (ex_If (tv := false) ((tv_Compare (ev_Name rfl rfl rfl rfl) ev_int cmp_lt_int rfl).cast (by simp; omega)) nofun (fun _ => ex_nil)) ?_
    have hfi := small_int (n := n) (by omega) hn
    refine ex_next (ex_Assign (d := .flt (barB ds)) O rfl (.inr ⟨rfl, rfl⟩) ((ev_BinOp (ev_callB O ok rfl rfl (.inl (mg_is O rfl)) (evl_cons (ev_Name rfl rfl rfl rfl) evl_nil) (fn_fsum O hR.hd hd b1)) (ev_Name rfl rfl rfl rfl) (op_div_fi hfi.1 hfi.2)).cast (by unfold barB; rw [h1])) rfl) ?_
    refine ex_next (ex_Assign (d := .flt (barB es)) O rfl (.inr ⟨rfl, rfl⟩) ((ev_BinOp (ev_callB O ok rfl rfl (.inl (mg_is O rfl)) (evl_cons (ev_Name rfl rfl rfl rfl) evl_nil) (fn_fsum O hR.hd he b2)) (ev_Name rfl rfl rfl rfl) (op_div_fi hfi.1 hfi.2)).cast (by unfold barB; rw [h2])) rfl) ?_
    refine ex_next (ex_Assign O rfl (.inl rfl) (ev_sumprod (n := n) O (hR.le (by omega)) ok hcode rfl rfl rfl rfl rfl rfl rfl (by decide +kernel) (by decide +kernel) (by decide +kernel) rfl rfl rfl rfl rfl rfl rfl (by decide +kernel) (by decide +kernel) (by decide +kernel) rfl (mg_is O rfl) rfl rfl rfl rfl hd he h1 h2 (by omega) hp hps) rfl) ?_
    have hfj := small_int (n := n - 1) (by omega) (by omega)
    have hcast : ((n : Int) - 1) = ((n - 1 : Nat) : Int) := by omega
    refine ex_ret (ex_Return ((ev_BinOp (ev_Name rfl rfl rfl rfl) (ev_BinOp (ev_Name rfl rfl rfl rfl) ev_int op_sub_int) (op_div_fi (by rw [hcast]; exact hfj.1) (by rw [hcast]; exact hfj.2))).cast ?_))
    unfold covB
    rw [h1]
end
end Mine
end
/-! FMean -/
section
open PySem PySem.W PyProof.Rows
set_option linter.unusedVariables false
set_option maxRecDepth 10000
namespace Mine
open PySem.Float64
section
variable {c : Cx} {A : Around} {env : Env} {ρ : Rho} {W : Addr → Prop}
theorem ev_none {k : Nat} {pos : Pos} : Ev c A env ρ (eval (.Constant .none k pos) env) .none :=
  ⟨fun s Q E g hs hQ => wpAny_Constant_none (hQ _ s g (KK.refl _) (rp_none.mpr rfl))⟩
theorem cmp_is_none : Op2 c A (compareOp .Is) .none .none (.bool true) := by
  refine ⟨fun s v₁ v₂ Q E g r₁ r₂ hQ => ?_⟩
  rw [rp_none] at r₁ r₂
  subst r₁ r₂
  exact wpAny_is_self rfl (hQ _ s g (KK.refl _) (rp_bool.mpr rfl))
theorem ex_Try {body : List Stmt} {h : ExceptHandler} {hs : List ExceptHandler} {pos : Pos} {ρ' : Rho} (hb : Ex c W A env ρ (execs body env) (.next ρ')) : Ex c W A env ρ (exec (.Try body (h :: hs) [] [] pos) env) (.next ρ') := by
  refine ⟨fun s Q E g hs hQ => wpAny_Try_except ?_⟩
  refine hb.run s _ _ g hs fun fl s' g' k' m' => ?_
  obtain ⟨rfl, m⟩ := m'
  exact wpAny_execs_nil (hQ _ s' g' k' ⟨rfl, m⟩)
theorem tv_int {e : Expr} {i : Int} {whole : Sem Value} (h : Ev c A env ρ whole (.int i)) (he : isTrue e env whole = (do let v ← whole; standAt e.pos; holding [v] (truthy v))) : Tv c A env ρ (isTrue e env whole) (i != 0) := by
  refine ⟨fun s Q E g hs hQ => ?_⟩
  refine wpAny_isTrue_value (h.run s _ _ g hs fun v s₁ g₁ k₁ r₁ => ?_) he
  obtain ⟨t, rfl⟩ := rp_int.mp r₁
  exact truthy_int (hQ s₁ g₁ k₁)
/-- a call of a def of the top whose last parameters are not given -/
theorem fn_callD {k : Nat} {f : Addr} {o : Obj} {fd : FuncData} {body : List Stmt} {ps : List Str} {ds ds' : List D} {dvs : List Value} {d : D} (O : c.Ok) (hA : Rm A (k + 1)) (ho : c.h₀.get? f = some o) (hdata : o.data = .func fd) (hbody : fd.body = .stmts body)
    (hcd : ∃ ca co vs t, fd.code = .ref ca ∧ c.h₀.get? ca = some co ∧ co.cls ≠ .none ∧ co.data = .fields vs ∧ vs[1]? = some (.str fd.qualname t))
    (hbind : ∀ (vals : List Value) (s : Shared) (A' : Around) (E : Value → Shared → Prop) (Q : List (Str × Value) → Shared → Prop), G c s → vals.length = ds.length → Q (ps.zip (vals ++ dvs)) s → wpAny (model c.prog c.w) A' (bindArgs fd ⟨vals, []⟩) Q E s)
    (hdv : ∀ h, RpL c.av h dvs ds') (hclo : fd.closure = []) (hps : ps.Nodup) (hlen : (ds ++ ds').length = ps.length)
    (hkind : (ps.all fun p => fd.scope.names.lookup p == some .local || fd.scope.names.lookup p == some .cell) = true)
    (h : ∀ L, Rm (A.deeper (callEnvC fd L f)) k → Ex c (fun _ => False) (A.deeper (callEnvC fd L f)) (callEnvC fd L f) (ps.zip (ds ++ ds')) (execs body (callEnvC fd L f)) (.ret d))
    (hco : fd.scope.isCoroutine = false) (hgen : fd.scope.isGenerator = false) (hk : fd.scope.kind = .function) : Fn c A (.ref f) ds d := by
  refine ⟨fun s vs₀ Q E g r₀ hQ => ?_⟩
  have r := r₀.append (hdv s.heap)
  generalize hvs : vs₀ ++ dvs = vs at r
  have hvl : vs.length = ps.length := by rw [r.length, hlen]
  have ho' : s.heap.get? f = some o := g.kk f o (NT.data (by rw [hdata]; nofun)) ho
  have hnd : ((ps.zip vs).map (·.1)).Nodup := by rw [zip_fst _ _ hvl.symm]; exact hps
  have hlim : s.heap.NoLimit := g.kk.nolimit O.nolimit
  refine wpAny_call (codeAny_call_function hA.lim ho' hdata hco hgen hbody (g.kk.codeRec hcd) ?_)
  refine hbind vs₀ s _ _ _ g r₀.length ?_
  rw [hvs, hclo]
  refine wpAny_newFunctionEnv_cells hk ?_ fun env he s₁ x₀ => ?_
  · intro x hx
    have hxp : x.1 ∈ ps := by
      have := List.mem_map_of_mem (f := fun y : Str × Value => y.1) hx
      rwa [zip_fst _ _ hvl.symm] at this
    have := List.all_eq_true.mp hkind x.1 hxp
    rcases Bool.or_eq_true_iff.mp this with q | q
    · exact .inl (by simpa using q)
    · have q' : fd.scope.names.lookup x.1 = some .cell := by simpa using q
      exact .inr ⟨q', cellsFrom_some _ _ _ (.inl q')⟩
  · subst he
    have x : InCallC s (callEnvC fd s.heap.objs.size f).locals (bindL (callEnvC fd s.heap.objs.size f).kindOf (ps.zip vs) fun _ => none) (callEnvC fd s.heap.objs.size f).cells (bindC (callEnvC fd s.heap.objs.size f).kindOf (ps.zip vs) fun _ => none) s₁ := x₀
    refine ⟨hlim.keeps x.toInCall.keep, codeAny_func ?_⟩
    obtain ⟨h₁, tk, hs₁⟩ := x.toInCall.same
    have keep := x.toInCall.keep
    have g₁ : G c s₁ := g.keep keep (by rw [hs₁]) (by rw [hs₁])
    have hnew : ∀ a, s.heap.objs.size ≤ a → c.h₀.get? a = none ∧ ¬ c.av a := by
      intro a ha
      refine ⟨?_, fun hh => ?_⟩
      · cases q : c.h₀.get? a with
        | none => rfl
        | some o => obtain ⟨o', ho'⟩ := g.old.there _ _ q; exact absurd (Heap.lt_size ho') (Nat.not_lt.mpr ha)
      · obtain ⟨o, ho⟩ := g.av a hh; exact absurd (Heap.lt_size ho) (Nat.not_lt.mpr ha)
    have hlt : ∀ y a, (callEnvC fd s.heap.objs.size f).cells.lookup y = some a → s.heap.objs.size < a := fun y a e => x.above y a (mem_of_lookup e)
    have own : Own c (callEnvC fd s.heap.objs.size f) s₁.heap :=
      ⟨⟨_, x.toInCall.ns⟩, fun y a e => ⟨_, x.cell y a e⟩, (hnew _ (Nat.le_refl _)).1, fun y a e => (hnew a (Nat.le_of_lt (hlt y a e))).1, (hnew _ (Nat.le_refl _)).2, fun y a e => (hnew a (Nat.le_of_lt (hlt y a e))).2,
        fun y y' a e e' => name_of_addr x.apart (mem_of_lookup e) (mem_of_lookup e')⟩
    have has : Has c (callEnvC fd s.heap.objs.size f) s₁.heap (ps.zip (ds ++ ds')) := by
      refine ⟨own, fun y dd e => ?_⟩
      obtain ⟨v, hv, rv⟩ := zip_lookup r e
      refine ⟨v, ?_, rv.mono (KK.full keep).kl⟩
      have hyp : y ∈ ps := by
        have := List.mem_map_of_mem (f := fun z : Str × Value => z.1) (mem_of_lookup' hv)
        rwa [zip_fst _ _ hvl.symm] at this
      have := List.all_eq_true.mp hkind y hyp
      rcases Bool.or_eq_true_iff.mp this with q | q
      · have q' : (callEnvC fd s.heap.objs.size f).kindOf y = some .local := eq_of_beq q
        exact .inl ⟨q', _, x.toInCall.ns, by rw [bindL_get q' _ _ hnd, hv]⟩
      · have q' : (callEnvC fd s.heap.objs.size f).kindOf y = some .cell := eq_of_beq q
        obtain ⟨a, ha⟩ := Option.isSome_iff_exists.mp (cellsFrom_some fd.scope.names (s.heap.objs.size + 1) [] (.inl (by simpa using q)))
        have hcl := x.cell y a ha
        rw [bindC_get (by rw [q']; nofun) _ _ hnd, hv] at hcl
        exact .inr ⟨.inl q', a, ha, hcl⟩
    refine (h _ hA.deeper).run s₁ _ _ g₁ has fun fl s' g' kf hm => ?_
    obtain ⟨v, rfl, rv, _⟩ := hm
    refine hQ v s' g' ?_ rv
    intro b o n e
    have hb := Heap.lt_size e
    exact kf b o n (Nat.ne_of_lt hb) (fun y _ hq => absurd (hlt y b hq) (Nat.lt_asymm hb)) (fun q => q) (keep b o e)
/-- fmean of a list -/
theorem fn_fmean (O : c.Ok) (hA : Rm A 4) {ds : List D} {ms : List Int} (h0 : 0 < ds.length) (hn : ds.length ≤ 1000) (hd : Nms ds ms) (b1 : absSum ms < 2 ^ 53) : Fn c A (.ref 73) [.list ds] (.flt (barB ds)) := by
  refine fn_callD (fd := fdAt 73) (ps := [Str.ofString "data", Str.ofString "weights"]) (k := 3) (dvs := [.none]) (ds' := [.none]) O hA (O.K 73 _ rfl) rfl rfl ⟨72, _, _, _, rfl, O.K 72 _ rfl, nofun, rfl, rfl⟩ ?_ (fun h => RpL.one (rp_none.mpr rfl)) rfl (by decide) rfl rfl ?_ rfl rfl rfl
  · intro vals s A' E Q g hv hQ
    match vals, hv with
    | [x], _ =>
      unfold bindArgs
      have h66 : s.heap.get? 66 = some { cls := .type "tuple", data := .seq #[.none] 0 } := g.kk _ _ (NT.cls nofun) (O.K 66 _ rfl)
      have hf : (fdAt 73).defaults = .ref 66 := rfl
      simp only [List.forIn_nil, pure_bind, hf]
      refine wpAny_bind (wpAny_seqItems h66 rfl ?_)
      exact wpAny_pure hQ
  · intro L hR
    have ok : EnvOk (callEnvC (fdAt 73) L 73) := callEnv_ok rfl rfl rfl
    have hfi := small_int (n := ds.length) h0 hn
    have hnz : (!((ds.length : Int) != 0)) = false := by
      have : (ds.length : Int) ≠ 0 := by omega
      rw [bne_iff_ne.mpr this]; rfl
    refine ex_ret (ex_If (tv := true) (tv_Compare (ev_Name rfl rfl rfl rfl) ev_none cmp_is_none rfl) (fun _ => ?_) nofun)
    refine ex_next (ex_Try (ex_next (ex_Assign (d := .int ds.length) O rfl (.inr ⟨rfl, rfl⟩) (ev_callB O ok rfl rfl (.inr (bi_len O)) (evl_cons (ev_Name rfl rfl rfl rfl) evl_nil) (fn_len_list (xs := ds) (by omega))) rfl) ex_nil)) ?_
    refine ex_next (ex_Assign (d := .flt (fsumB (ds.map numF))) O rfl (.inl rfl) (ev_callB O ok rfl rfl (.inl (mg_is O rfl)) (evl_cons (ev_Name rfl rfl rfl rfl) evl_nil) (fn_fsum O hR.hd hd b1)) rfl) ?_
    refine ex_next (ex_If (tv := false) ((tv_Not (tv_int (ev_Name rfl rfl rfl rfl) rfl)).cast hnz) nofun (fun _ => ex_nil)) ?_
    exact ex_ret (ex_Return (ev_BinOp (ev_Name rfl rfl rfl rfl) (ev_Name rfl rfl rfl rfl) (op_div_fi hfi.1 hfi.2)))
end
end Mine
end
/-! FNum -/
section
open PySem PySem.W PyProof.Rows
set_option linter.unusedVariables false
set_option maxRecDepth 10000
namespace Mine
open PySem.Float64
theorem lim40 {i : Int} (h : i.natAbs < 2 ^ 40) : i.natAbs < 2 ^ 1023 := Nat.lt_of_lt_of_le h (pow_ge 40 1023 (by decide))
/-- a sum of two numbers -/
def addD : D → D → D
  | .int a, .int b => .int (a + b)
  | d, e => .flt (Float64.add (numF d) (numF e))
def mulI (a : Int) : D → D
  | .int b => .int (a * b)
  | d => .flt (Float64.mul (ofInt a) (numF d))
theorem addD_ok {d e : D} {m n : Int} (hd : Nm d m) (he : Nm e n) (h1 : (m + n).natAbs < 2 ^ 47) : Nm (addD d e) (m + n) := by
  have f1 := hd.fx
  have f2 := he.fx
  cases hd with
  | int h =>
    cases he with
    | int h' => rw [← Int.add_mul] at h1 ⊢; exact .int (by rw [Int.natAbs_mul, show ((2 : Int) ^ 8).natAbs = 256 from rfl] at h1; omega)
    | flt h' => exact .flt (fx_add f1 f2 (by omega))
  | flt h => cases he <;> exact .flt (fx_add f1 f2 (by omega))
theorem mulI_ok {a : Int} {e : D} {n : Int} (ha : a.natAbs < 2 ^ 20) (he : Nm e n) (h1 : (a * n).natAbs < 2 ^ 47) : Nm (mulI a e) (a * n) := by
  have f2 := he.fx
  cases he with
  | int h' =>
    rw [← Int.mul_assoc] at h1 ⊢
    exact .int (by rw [Int.natAbs_mul, show ((2 : Int) ^ 8).natAbs = 256 from rfl] at h1; omega)
  | flt h' => exact .flt (fx_mul (fx_ofInt (i := a) (by omega)) f2 (by show a * 256 * n = a * n * 256; rw [Int.mul_assoc, Int.mul_comm 256 n, ← Int.mul_assoc]) (by omega))
section
variable {c : Cx} {A : Around} {env : Env} {ρ : Rho}
theorem op_addD {d e : D} {m n : Int} (hd : Nm d m) (he : Nm e n) : Op2 c A (binaryOp .Add) d e (addD d e) := by
  cases hd with
  | int h =>
    cases he with
    | int h' => exact op_add_int
    | flt h' => exact op_add_if (lim40 h)
  | flt h =>
    cases he with
    | int h' => exact op_add_fi (lim40 h')
    | flt h' => exact op_add_ff
theorem op_mulI {a : Int} {e : D} {n : Int} (ha : a.natAbs < 2 ^ 20) (he : Nm e n) (hz : ∀ b, e = .int b → IntMulOk a b) : Op2 c A (binaryOp .Mult) (.int a) e (mulI a e) := by
  cases he with
  | int h' => exact op_mul_int (hz _ rfl)
  | flt h' => exact op_mul_if (lim40 (by omega))
def toW : D → WData
  | .int i => .int i
  | .flt x => .float x
  | _ => .none
def ofW : Option WData → D
  | some (.int i) => .int i
  | some (.float x) => .flt x
  | _ => .none
def sumD (ds : List D) : D := ofW (Num.sumInts 0 (ds.map toW))
theorem fits_of {a : Int} (h : a.natAbs < 2 ^ 41) : Num.fitsLong a = true := by
  unfold Num.fitsLong
  simp only [Bool.and_eq_true, decide_eq_true_eq]
  omega
theorem settled_ok {t c : UInt64} {S : Int} (ht : Fx t S) (hc : Fx c 0) : Num.settled t c = t := by
  unfold Num.settled
  rw [fx_isZero hc]
  simp
theorem sumFloats_ok {ds : List D} {ns : List Int} (h : Nms ds ns) : ∀ {t c : UInt64} {S : Int}, Fx t S → Fx c 0 → S.natAbs + absSum ns < 2 ^ 47 → ∃ z, Num.sumFloats t c (ds.map toW) = some (.float z) ∧ Fx z (S + ns.sum) := by
  induction h with
  | nil =>
    intro t c S ht hc _
    refine ⟨t, ?_, by simpa using ht⟩
    show some (WData.float (Num.settled t c)) = _
    rw [settled_ok ht hc]
  | cons hd tl ih =>
    rename_i d n ds ns
    intro t c S ht hc hb
    rw [absSum_cons] at hb
    have f := hd.fx
    cases hd with
    | int hi =>
      rename_i i
      have f' : Fx (ofInt i) (i * 2 ^ 8) := f
      have := ih (fx_add ht f' (by omega)) hc (by omega)
      obtain ⟨z, h1, h2⟩ := this
      refine ⟨z, ?_, by rw [List.sum_cons, ← Int.add_assoc]; exact h2⟩
      show (if Num.fitsLong i then Num.sumFloats (Float64.add t (ofInt i)) c (ds.map toW) else _) = _
      rw [if_pos (fits_of (by omega))]
      exact h1
    | flt hx =>
      rename_i x
      have hs := fx_add ht hx (by omega)
      have l1 : Fx (Float64.add (Float64.sub x (Float64.add t x)) t) 0 := by
        have a1 := fx_sub hx hs (by omega)
        have a2 := fx_add a1 ht (by omega)
        rw [show n - (S + n) + S = 0 by omega] at a2
        exact a2
      have l2 : Fx (Float64.add (Float64.sub t (Float64.add t x)) x) 0 := by
        have a1 := fx_sub ht hs (by omega)
        have a2 := fx_add a1 hx (by omega)
        rw [show S - (S + n) + n = 0 by omega] at a2
        exact a2
      have hl : ∀ b : Bool, Fx (Float64.add c (if b = true then Float64.add (Float64.sub x (Float64.add t x)) t else Float64.add (Float64.sub t (Float64.add t x)) x)) 0 := by
        intro b
        cases b
        · exact fx_add hc l2 b53
        · exact fx_add hc l1 b53
      obtain ⟨z, h1, h2⟩ := ih hs (hl _) (by omega)
      exact ⟨z, h1, by rw [List.sum_cons, ← Int.add_assoc]; exact h2⟩
theorem sumInts_ok {ds : List D} {ns : List Int} (h : Nms ds ns) : ∀ {a : Int}, a.natAbs * 2 ^ 8 + absSum ns < 2 ^ 47 → ∃ r, Num.sumInts a (ds.map toW) = some r ∧ Nm (ofW (some r)) (a * 2 ^ 8 + ns.sum) ∧ (∀ h v, Flt.NumIs v r → Rp c.av h v (ofW (some r))) := by
  induction h with
  | nil =>
    intro a hb
    refine ⟨.int a, rfl, by simpa [ofW] using Nm.int (i := a) (by simp [absSum] at hb; omega), fun h v hv => ?_⟩
    cases hv; exact rp_int.mpr ⟨_, rfl⟩
  | cons hd tl ih =>
    rename_i d n ds ns
    intro a hb
    rw [absSum_cons] at hb
    have f := hd.fx
    cases hd with
    | int hi =>
      rename_i i
      rw [Int.natAbs_mul, show ((2 : Int) ^ 8).natAbs = 256 from rfl] at hb
      obtain ⟨r, h1, h2, h3⟩ := ih (a := a + i) (by omega)
      refine ⟨r, ?_, ?_, h3⟩
      · show (if Num.fitsLong i && Num.fitsLong (a + i) then Num.sumInts (a + i) (ds.map toW) else _) = _
        rw [fits_of (by omega), fits_of (by omega)]
        exact h1
      · rw [List.sum_cons, ← Int.add_assoc, ← Int.add_mul]; exact h2
    | flt hx =>
      rename_i x
      have f0 : Fx (ofInt a) (a * 2 ^ 8) := fx_ofInt (by omega)
      have hz : Fx (0 : UInt64) 0 := fx_zero false
      have e8 : (a * 2 ^ 8).natAbs = a.natAbs * 2 ^ 8 := by rw [Int.natAbs_mul]; rfl
      obtain ⟨z, h1, h2⟩ := sumFloats_ok tl (fx_add f0 hx (by omega)) hz (by omega)
      refine ⟨.float z, h1, ?_, fun h v hv => ?_⟩
      · rw [List.sum_cons, ← Int.add_assoc]; exact .flt h2
      · cases hv; exact rp_flt.mpr ⟨_, rfl⟩
theorem nm_numIs {h : Heap} {v : Value} {d : D} {n : Int} (hn : Nm d n) (r : Rp c.av h v d) : Flt.NumIs v (toW d) := by
  cases hn with
  | int hi => obtain ⟨t, rfl⟩ := rp_int.mp r; exact .int _ _
  | flt hx => obtain ⟨t, rfl⟩ := rp_flt.mp r; exact .float _ _
theorem fn_sum_num {ds : List D} {ns : List Int} (O : c.Ok) (hA : A.handled = none) (hn : Nms ds ns) (hb : absSum ns < 2 ^ 46) : Fn c A (.builtin "sum") [.list ds] (sumD ds) ∧ Nm (sumD ds) ns.sum := by
  obtain ⟨r, h1, h2, h3⟩ := sumInts_ok (c := c) hn (a := 0) (by simp; omega)
  rw [show (0 : Int) * 2 ^ 8 + ns.sum = ns.sum by omega] at h2
  refine ⟨⟨fun s vs Q E g r₀ hQ => ?_⟩, by unfold sumD; rw [h1]; exact h2⟩
  obtain ⟨v, rfl, rv⟩ := rpl_one r₀
  obtain ⟨a, items, rfl, ha, hl, rl⟩ := rp_list.mp rv
  refine Flt.call_sum_walkF h1 (wpAny_pyIter_list hl.isList ?_)
  have S := src_list g ha hl rl
  have kI := kk_fresh (KK.refl s.heap) (Nat.le_refl _)
  have k1 := KK.push s.heap { cls := .type "list_iterator", data := .fields #[.ref a, .int 0 0] }
  have g1 := g.push (o := { cls := .type "list_iterator", data := .fields #[.ref a, .int 0 0] }) (t := s.toks)
  have W := (S.W A.in1 hA).toS
  have hlen : ds.length = (ds.map toW).length := by simp
  rw [hlen] at W
  refine ⟨_, _, _, _, _, _, rfl, W, S.start, fun b hb' => ?_, fun i v hP => ?_, fun s' v hv hm => ?_⟩
  · obtain ⟨o, ho, _⟩ := S.here b hb'
    exact Heap.lt_size ho
  · obtain ⟨d, hd, rd⟩ := rl.get' (i := i) (v := v) (by simpa using hP)
    obtain ⟨n, _, hnd⟩ := hn.get hd
    exact ⟨toW d, by simp [hd], nm_numIs hnd rd⟩
  · have hk : ∀ b o, NT o → s.heap.get? b = some o → s'.heap.get? b = some o := fun b o n e => hm.heap b o (by
      intro q
      have q' : b = s.heap.objs.size := by simpa using q
      subst q'
      exact kI o n e) (k1 b o n e)
    obtain ⟨hp, gg, d, tk, os⟩ := s'
    have e1 : gg = s.gens := hm.gens
    have e2 : d = s.drawn := hm.drawn
    have e3 : os = s.os := hm.os
    subst e1 e2 e3
    refine hQ v _ (g1.ext (h' := hp) (t := tk) O S.old (fun b o hb e => hm.heap b o (by simpa using hb) e) S.nav) hk ?_
    unfold sumD
    rw [h1]
    exact h3 _ v hv
theorem ev_isfloat {e : Expr} {p p2 pos : Pos} {x : UInt64} (O : c.Ok) (ok : EnvOk env) (hx : env.kindOf (Str.ofString "isinstance") = some .globalImplicit) (hx2 : env.kindOf (Str.ofString "float") = some .globalImplicit) (h : Ev c A env ρ (eval e env) (.flt x)) (he : notStar e = true := by rfl) :
    Ev c A env ρ (eval (.Call (.Name (Str.ofString "isinstance") p) [e, .Name (Str.ofString "float") p2] [] pos) env) (.bool true) := by
  refine ⟨fun s Q E g hs hQ => ?_⟩
  refine wpAny_Call_NameR (load_global O ok g hx rfl (.inr ⟨mg_is O rfl, mb_of O (by decide) rfl⟩) ?_)
  refine callWith_builtin1 ?_ (star_cons he) (star_plain rfl)
  rw [star_cons he]
  refine Calls.spliced_cons (x := eval e env) (h.run s _ _ g hs fun v s₁ g₁ k₁ r₁ => ?_)
  rw [star_cons rfl]
  refine Calls.spliced_cons (x := eval (.Name (Str.ofString "float") p2) env) (load_global O ok g₁ hx2 rfl (.inr ⟨mg_is O rfl, mb_of O (by decide) rfl⟩) ?_)
  refine Calls.spliced_nil ?_
  obtain ⟨t, rfl⟩ := rp_flt.mp r₁
  exact IsiPair.float_float (hQ _ s₁ g₁ k₁ (rp_bool.mpr rfl))
end
end Mine
end
/-! FVal -/
section
open PySem PySem.W PyProof.Rows
set_option linter.unusedVariables false
set_option maxRecDepth 10000
namespace Mine
open PySem.Float64
def x16 (us : List Int) : List Int := us.map fun u => 16 * u
theorem x16_sum : ∀ us : List Int, (x16 us).sum = 16 * us.sum
  | [] => rfl
  | u :: us => by
    have := x16_sum us
    unfold x16 at this ⊢
    simp only [List.map_cons, List.sum_cons, this]
    omega
theorem absSum_le : ∀ (us : List Int) (B : Nat), (∀ u ∈ us, u.natAbs ≤ B) → absSum us ≤ us.length * B
  | [], B, h => by simp [absSum]
  | u :: us, B, h => by
    have h1 := absSum_le us B fun x hx => h x (List.mem_cons_of_mem _ hx)
    have h2 := h u List.mem_cons_self
    rw [absSum_cons, List.length_cons, Nat.add_mul]
    omega
theorem mul_le_of {a b A B : Nat} (h1 : a ≤ A) (h2 : b ≤ B) : a * b ≤ A * B := Nat.mul_le_mul h1 h2
theorem prs_of {ds es : List D} {X Y : UInt64} {ub vb : Int} (hX : Fx X (16 * ub)) (hY : Fx Y (16 * vb)) (hub : ub.natAbs ≤ 2 ^ 20) (hvb : vb.natAbs ≤ 2 ^ 20) : ∀ {us vs : List Int}, Nms ds (x16 us) → Nms es (x16 vs) → us.length = vs.length → (∀ u ∈ us, u.natAbs ≤ 2 ^ 20) → (∀ v ∈ vs, v.natAbs ≤ 2 ^ 20) →
    Prs (ds.map fun v => Float64.sub (numF v) X) (es.map fun v => Float64.sub (numF v) Y) ((us.zip vs).map fun q => (q.1 - ub) * (q.2 - vb)) := by
  induction ds generalizing es with
  | nil =>
    intro us vs hd he hl _ _
    have h1 := hd.length
    have h2 := he.length
    simp [x16] at h1 h2
    have : us = [] := List.eq_nil_of_length_eq_zero h1.symm
    subst this
    have : vs = [] := List.eq_nil_of_length_eq_zero (by simpa using hl.symm)
    subst this
    have : es = [] := List.eq_nil_of_length_eq_zero (by simpa using h2)
    subst this
    exact .nil
  | cons d ds ih =>
    intro us vs hd he hl hu hv
    cases us with
    | nil => cases hd
    | cons u us =>
      cases vs with
      | nil => simp at hl
      | cons v vs =>
        cases hd with
        | cons h1 t1 =>
          cases he with
          | cons h2 t2 =>
            have b1 := hu u List.mem_cons_self
            have b2 := hv v List.mem_cons_self
            refine .cons (a := 16 * u - 16 * ub) (b := 16 * v - 16 * vb) (fx_sub h1.fx hX (by omega)) (fx_sub h2.fx hY (by omega)) ?_ (ih t1 t2 (by simpa using hl) (fun x hx => hu x (List.mem_cons_of_mem _ hx)) (fun x hx => hv x (List.mem_cons_of_mem _ hx)))
            show (16 * u - 16 * ub) * (16 * v - 16 * vb) = (u - ub) * (v - vb) * 2 ^ 8
            rw [← Int.mul_sub, ← Int.mul_sub]
            generalize u - ub = p
            generalize v - vb = q
            rw [show (2 : Int) ^ 8 = 16 * 16 from rfl]
            ac_rfl
theorem bar_ok {ds : List D} {us : List Int} {ub : Int} {n : Nat} (h1 : ds.length = n) (h0 : 1 ≤ n) (hn : n ≤ 24) (hd : Nms ds (x16 us)) (hu : us.sum = ub * n) (bu : ∀ u ∈ us, u.natAbs ≤ 2 ^ 20) (hub : ub.natAbs ≤ 2 ^ 20) : Fx (barB ds) (16 * ub) ∧ absSum (x16 us) < 2 ^ 53 := by
  have hl := hd.length
  have hl' : us.length = n := by simp [x16] at hl; omega
  have hb : absSum (x16 us) ≤ n * (16 * 2 ^ 20) := by
    have := absSum_le (x16 us) (16 * 2 ^ 20) (by
      intro w hw
      unfold x16 at hw
      obtain ⟨u, hu', rfl⟩ := List.mem_map.mp hw
      have := bu u hu'
      omega)
    simp [x16] at this
    rw [hl'] at this
    simpa [x16] using this
  have hb2 : absSum (x16 us) < 2 ^ 53 := by
    have : n * (16 * 2 ^ 20) ≤ 24 * (16 * 2 ^ 20) := Nat.mul_le_mul_right _ hn
    omega
  refine ⟨?_, hb2⟩
  have f1 := fsumB_ok hd hb2
  rw [x16_sum, hu] at f1
  have f2 := fx_ofInt (i := (n : Int)) (by simp; omega)
  unfold barB
  rw [h1]
  refine fx_div f1 f2 (by omega) ?_ (by omega)
  generalize (2 : Int) ^ 8 = k
  generalize (n : Int) = m
  ac_rfl
theorem zip_mem {α β : Type} {a : List α} {b : List β} {q : α × β} (h : q ∈ a.zip b) : q.1 ∈ a ∧ q.2 ∈ b := by
  obtain ⟨x, y⟩ := q
  exact ⟨(List.of_mem_zip h).1, (List.of_mem_zip h).2⟩
section
variable {c : Cx} {A : Around}
theorem cov_ok (O : c.Ok) (hA : Rm A 4) {ds es : List D} {us vs : List Int} {ub vb T : Int} {n : Nat} (h1 : ds.length = n) (h2 : es.length = n) (h0 : 2 ≤ n) (hn : n ≤ 24) (hd : Nms ds (x16 us)) (he : Nms es (x16 vs)) (hu : us.sum = ub * n) (hv : vs.sum = vb * n)
    (bu : ∀ u ∈ us, u.natAbs ≤ 2 ^ 20) (bv : ∀ u ∈ vs, u.natAbs ≤ 2 ^ 20) (hub : ub.natAbs ≤ 2 ^ 20) (hvb : vb.natAbs ≤ 2 ^ 20) (hT : ((us.zip vs).map fun q => (q.1 - ub) * (q.2 - vb)).sum = T * ((n : Int) - 1)) (hTb : T.natAbs < 2 ^ 53) :
    Fn c A (.ref 80) [.list ds, .list es] (.flt (covB ds es)) ∧ Fx (covB ds es) T := by
  obtain ⟨fX, b1⟩ := bar_ok h1 (by omega) hn hd hu bu hub
  obtain ⟨fY, b2⟩ := bar_ok h2 (by omega) hn he hv bv hvb
  have hl1 : us.length = n := by have := hd.length; simp [x16] at this; omega
  have hl2 : vs.length = n := by have := he.length; simp [x16] at this; omega
  have hp := prs_of fX fY hub hvb hd he (by omega) bu bv
  have hps : absSum ((us.zip vs).map fun q => (q.1 - ub) * (q.2 - vb)) < 2 ^ 53 := by
    have := absSum_le ((us.zip vs).map fun q => (q.1 - ub) * (q.2 - vb)) (2 ^ 21 * 2 ^ 21) (by
      intro w hw
      obtain ⟨q, hq, rfl⟩ := List.mem_map.mp hw
      obtain ⟨m1, m2⟩ := zip_mem hq
      have := bu _ m1; have := bv _ m2
      rw [Int.natAbs_mul]
      exact Nat.mul_le_mul (by omega) (by omega))
    rw [List.length_map, List.length_zip, hl1, hl2, Nat.min_self] at this
    have h24 : n * (2 ^ 21 * 2 ^ 21) ≤ 24 * (2 ^ 21 * 2 ^ 21) := Nat.mul_le_mul_right _ hn
    omega
  refine ⟨fn_cov O hA h1 h2 h0 (by omega) hd he b1 b2 hp hps, ?_⟩
  have f1 := spB_ok hp hps
  rw [hT] at f1
  have f2 := fx_ofInt (i := (n : Int) - 1) (by omega)
  unfold covB
  rw [h1]
  refine fx_div f1 f2 (by omega) ?_ hTb
  generalize (2 : Int) ^ 8 = k
  generalize (n : Int) - 1 = m
  ac_rfl
end
end Mine
end
/-! LCol -/
section
open PySem PySem.W PyProof.Rows
set_option linter.unusedVariables false
set_option maxRecDepth 10000
namespace Mine
open PySem.Float64
theorem toPs_map {α : Type} (f : α → D) : ∀ l : List α, toPs (l.map f) = l.map fun x => toP (f x)
  | [] => rfl
  | x :: l => by rw [List.map_cons, toPs, toPs_map f l]; rfl
theorem noFs_map {α : Type} (f : α → D) (h : ∀ x, noF (f x) = true) : ∀ l : List α, noFs (l.map f) = true
  | [] => rfl
  | x :: l => by rw [List.map_cons, noFs, noFs_map f h l, h]; rfl
theorem noFs_map' {α : Type} (f : α → D) : ∀ l : List α, (∀ x ∈ l, noF (f x) = true) → noFs (l.map f) = true
  | [], _ => rfl
  | x :: l, h => by rw [List.map_cons, noFs, noFs_map' f l (fun y hy => h y (List.mem_cons_of_mem _ hy)), h x List.mem_cons_self]; rfl
theorem eqv_ints : ∀ p q : List Int, PyData.eqvAll (toPs (p.map .int)) (toPs (q.map .int)) = decide (p = q)
  | [], [] => rfl
  | [], _ :: _ => rfl
  | _ :: _, [] => rfl
  | x :: p, y :: q => by
    have ih := eqv_ints p q
    simp only [List.map_cons, toPs, toP, PyData.eqvAll, PyData.eqv, ih]
    by_cases h1 : x = y <;> by_cases h2 : p = q <;> simp [h1, h2]
theorem eqv_LI (p q : List Int) : PyData.eqv (toP (LI p)) (toP (LI q)) = decide (p = q) := by
  unfold LI
  simp only [toP, PyData.eqv, eqv_ints]
theorem lay_ints : ∀ p : List Int, PyData.canLayAll0 (toPs (p.map .int)) = true
  | [] => rfl
  | x :: p => by simp only [List.map_cons, toPs, toP, PyData.canLayAll0, PyData.canLay0, lay_ints p]; rfl
theorem lay_LI (p : List Int) : (toP (LI p)).canLay0 = true := by unfold LI; simp only [toP, PyData.canLay0, lay_ints]
theorem dep_ints : ∀ p : List Int, PyData.depthAll (toPs (p.map .int)) = 0
  | [] => rfl
  | x :: p => by simp only [List.map_cons, toPs, toP, PyData.depthAll, PyData.depth, dep_ints p]; rfl
theorem dep_LI (p : List Int) : (toP (LI p)).depth = 1 := by unfold LI; simp only [toP, PyData.depth, dep_ints]
theorem lay_LIs : ∀ l : List (List Int), PyData.canLayAll0 (toPs (l.map LI)) = true
  | [] => rfl
  | x :: l => by rw [List.map_cons, toPs, PyData.canLayAll0, lay_LI, lay_LIs l]; rfl
theorem noF_LI (p : List Int) : noF (LI p) = true := by unfold LI; rw [noF]; exact noFs_map _ (fun _ => rfl) p
theorem any_LI (l : List (List Int)) (q : List Int) : ((toPs (l.map LI)).any fun y => PyData.eqv y (toP (LI q))) = decide (q ∈ l) := by
  rw [toPs_map]
  induction l with
  | nil => simp
  | cons p l ih =>
    rw [List.map_cons, List.any_cons, ih, eqv_LI]
    by_cases h1 : p = q
    · simp [h1]
    · have h2 : ¬ q = p := fun e => h1 e.symm
      by_cases h3 : q ∈ l <;> simp [h1, h2, h3]
def markV (a b : Int) (pairs : List (List Int)) : Int := if [a, b] ∈ pairs then 230 else -115
def LLI' (l : List (List Int)) : D := .list (l.map LI)
section
variable {c : Cx} {A : Around}
theorem nms_ints : ∀ vs : List Int, (∀ v ∈ vs, v.natAbs < 2 ^ 40) → Nms (vs.map .int) (x16 (vs.map fun v => 16 * v))
  | [], _ => .nil
  | v :: vs, h => by
    have := Nm.int (h v List.mem_cons_self)
    have e : v * 2 ^ 8 = 16 * (16 * v) := by omega
    rw [e] at this
    exact .cons this (nms_ints vs fun x hx => h x (List.mem_cons_of_mem _ hx))
theorem zip_swap_sum (ub vb : Int) : ∀ us vs : List Int, ((vs.zip us).map fun q => (q.1 - vb) * (q.2 - ub)).sum = ((us.zip vs).map fun q => (q.1 - ub) * (q.2 - vb)).sum
  | [], [] => rfl
  | [], _ :: _ => rfl
  | _ :: _, [] => rfl
  | u :: us, v :: vs => by
    simp only [List.zip_cons_cons, List.map_cons, List.sum_cons, zip_swap_sum ub vb us vs]
    rw [Int.mul_comm]
noncomputable def colB (sz : List D) (nexts : List (List (List Int))) (a b : Int) : UInt64 :=
  if a < b then covB sz ((nexts.map (markV a b)).map .int) else covB ((nexts.map (markV a b)).map .int) sz
set_option maxHeartbeats 1000000 in
theorem fn_column (O : c.Ok) (hA : Rm A 6) {sz : List D} {nexts : List (List (List Int))} {a b : Int} {us : List Int} {ub vb T : Int} {n : Nat} (h1 : sz.length = n) (h2 : nexts.length = n) (h0 : 2 ≤ n) (hn : n ≤ 24) (hd : Nms sz (x16 us)) (hu : us.sum = ub * n) (hv : ((nexts.map (markV a b)).map fun v => 16 * v).sum = vb * n)
    (bu : ∀ u ∈ us, u.natAbs ≤ 2 ^ 20) (hub : ub.natAbs ≤ 2 ^ 20) (hvb : vb.natAbs ≤ 2 ^ 20) (hT : ((us.zip ((nexts.map (markV a b)).map fun v => 16 * v)).map fun q => (q.1 - ub) * (q.2 - vb)).sum = T * ((n : Int) - 1)) (hTb : T.natAbs < 2 ^ 53) :
    Fn c A (.ref 126) [.list sz, .list (nexts.map LLI'), .int a, .int b] (.flt (colB sz nexts a b)) ∧ Fx (colB sz nexts a b) T := by
  have hm : ∀ v ∈ nexts.map (markV a b), v.natAbs ≤ 230 := by
    intro v hv
    obtain ⟨p, _, rfl⟩ := List.mem_map.mp hv
    unfold markV
    split <;> decide
  have he : Nms ((nexts.map (markV a b)).map .int) (x16 ((nexts.map (markV a b)).map fun v => 16 * v)) := nms_ints _ fun v hv => by have := hm v hv; omega
  have bv : ∀ v ∈ (nexts.map (markV a b)).map fun v => 16 * v, v.natAbs ≤ 2 ^ 20 := by
    intro w hw
    obtain ⟨v, hv, rfl⟩ := List.mem_map.mp hw
    have := hm v hv
    omega
  have c1 := fun A' (hA' : Rm A' 4) => cov_ok (c := c) O hA' h1 (es := (nexts.map (markV a b)).map .int) (by simpa using h2) h0 hn hd he hu hv bu bv hub hvb hT hTb
  have c2 := fun A' (hA' : Rm A' 4) => cov_ok (c := c) O hA' (ds := (nexts.map (markV a b)).map .int) (es := sz) (by simpa using h2) h1 h0 hn he hd hv hu bv bu hvb hub (by rw [zip_swap_sum]; exact hT) hTb
  have hc0 : Rm A 4 := hA.le (by omega)
  refine ⟨?_, by unfold colB; split; exact (c1 A hc0).2; exact (c2 A hc0).2⟩
  refine fn_call (fd := fdAt 126) (ps := [Str.ofString "sizes", Str.ofString "nexts", Str.ofString "a", Str.ofString "b"]) (k := 5) O hA (O.K 126 _ rfl) rfl rfl ⟨125, _, _, _, rfl, O.K 125 _ rfl, nofun, rfl, rfl⟩ ?_ rfl (by decide) rfl rfl ?_ rfl rfl rfl
  · intro vals hv
    match vals, hv with
    | [x, y, z, w], _ => rfl
  · intro L hR
    have ok : EnvOk (callEnvC (fdAt 126) L 126) := callEnv_ok rfl rfl rfl
    have hsl : sizeLine = 2 ^ 24 := rfl
    refine ex_next (ex_AssignComp (ds := nexts.map LLI') (es := (nexts.map (markV a b)).map .int) O hR.hd rfl (.inl rfl) rfl rfl rfl (by decide +kernel) (.inl rfl) (by decide +kernel) (it_list (ev_Name rfl rfl rfl rfl)) (by simp) ?_ (by simp; omega)) ?_
    · intro c' C O' _ _ _ _ _ i d e hd' he'
      rw [List.getElem?_map] at hd'
      rw [List.getElem?_map, List.getElem?_map] at he'
      cases q : nexts[i]? with
      | none => rw [q] at hd'; cases hd'
      | some p =>
        rw [q] at hd' he'
        cases hd'; cases he'
        refine (ev_IfExp (tv := decide ([a, b] ∈ p)) (d₁ := .int 230) (d₂ := .int (-115)) ((tv_Compare (d₁ := LI [a, b]) (d₂ := LLI' p) (ev_List (evl_cons (ev_Name rfl rfl rfl rfl) (evl_cons (ev_Name rfl rfl rfl rfl) evl_nil))) (ev_Name rfl rfl rfl rfl) (cmp_in (noF_LI _) (noFs_map _ noF_LI _) (lay_LIs _) (lay_LI _) ?_) rfl).cast (any_LI p [a, b])) (fun _ => ev_int) (fun _ => ev_UnaryOp ev_int op_neg_int)).cast ?_
        · have := hR.units
          rw [dep_LI]
          have : min (PyData.depthAll (toPs (p.map LI))) 1 ≤ 1 := Nat.min_le_right _ _
          show _ + 1 + _ < 9900
          omega
        · unfold markV
          by_cases h : [a, b] ∈ p
          · rw [if_pos h, if_pos (by simpa using h)]
          · rw [if_neg h, if_neg (by simpa using h)]
    · by_cases hab : a < b
      · have e : colB sz nexts a b = covB sz ((nexts.map (markV a b)).map .int) := by unfold colB; rw [if_pos hab]
        rw [e]
        refine ex_ret (ex_If (tv := true) ((tv_Compare (ev_Name rfl rfl rfl rfl) (ev_Name rfl rfl rfl rfl) cmp_lt_int rfl).cast (by simp [hab])) (fun _ => ex_ret (ex_Return (ev_call O ok rfl rfl (mg_is O rfl) (O.K 80 _ rfl) rfl (evl_cons (ev_Name rfl rfl rfl rfl) (evl_cons (ev_Name rfl rfl rfl rfl) evl_nil)) (c1 _ (hR.le (by omega))).1))) nofun)
      · have e : colB sz nexts a b = covB ((nexts.map (markV a b)).map .int) sz := by unfold colB; rw [if_neg hab]
        rw [e]
        refine ex_next (ex_If (tv := false) ((tv_Compare (ev_Name rfl rfl rfl rfl) (ev_Name rfl rfl rfl rfl) cmp_lt_int rfl).cast (by simp [hab])) nofun (fun _ => ex_nil)) ?_
        exact ex_ret (ex_Return (ev_call O ok rfl rfl (mg_is O rfl) (O.K 80 _ rfl) rfl (evl_cons (ev_Name rfl rfl rfl rfl) (evl_cons (ev_Name rfl rfl rfl rfl) evl_nil)) (c2 _ (hR.le (by omega))).1))
end
end Mine
end
/-! PLaw -/
section
open PySem PySem.W PyProof.Rows
set_option linter.unusedVariables false
set_option maxRecDepth 10000
namespace Mine
-- the texts
def sm (x y : List Nat) : Nat := (seamV (x.getLastD 0) (y.headD 0)).toNat
theorem seamV_nonneg (b a : Nat) : 0 ≤ seamV b a ∧ seamV b a ≤ 2 := by unfold seamV; split <;> (try split) <;> omega
theorem last_cons (k : Nat) (r : List Nat) (hr : r ≠ []) : (k :: r).getLastD 0 = r.getLastD 0 := by
  cases r with
  | nil => exact absurd rfl hr
  | cons a b => rfl
theorem sent_append : ∀ (x y : List Nat) (bf : Option Nat), x ≠ [] → sentGo bf (x ++ y) = sentGo bf x ++ sentGo (some (x.getLastD 0)) y
  | [], y, bf, h => absurd rfl h
  | k :: r, y, bf, _ => by
    by_cases hr : r = []
    · subst hr
      simp [sentGo]
    · rw [List.cons_append, sentGo, sentGo, sent_append r y (some k) hr, last_cons k r hr, List.append_assoc]
theorem sent_seam (b : Nat) (y : List Nat) (hy : y ≠ []) : sentGo (some b) y = (sentGo none y).drop (seamV b (y.headD 0)).toNat ∧ (seamV b (y.headD 0)).toNat ≤ (sentGo none y).length := by
  cases y with
  | nil => exact absurd rfl hy
  | cons k r =>
    simp only [List.headD_cons]
    unfold sentGo chunk t1 t2 seamV
    by_cases h13 : k = 13
    · subst h13; simp
    · by_cases h10 : k = 10
      · subst h10
        by_cases hb : b = 13
        · subst hb; simp
        · simp [hb]
      · by_cases h46 : k = 46
        · subst h46
          by_cases hb : b = 13
          · subst hb; simp
          · by_cases hb2 : b = 10
            · subst hb2; simp
            · simp [hb, hb2]
        · simp [h13, h10, h46]
def tailC (x : List Nat) : List (List Nat) → List Nat
  | [] => []
  | y :: r => (sentGo none y).drop (sm x y) ++ tailC y r
theorem sent_tail : ∀ (r : List (List Nat)) (x : List Nat) (bf : Option Nat), x ≠ [] → (∀ y ∈ r, y ≠ []) → sentGo bf (x ++ r.flatten) = sentGo bf x ++ tailC x r
  | [], x, bf, _, _ => by simp [tailC]
  | y :: r, x, bf, hx, hr => by
    have hy := hr y List.mem_cons_self
    rw [List.flatten_cons, sent_append x _ bf hx, sent_tail r y _ hy (fun z hz => hr z (List.mem_cons_of_mem _ hz)), (sent_seam (x.getLastD 0) y hy).1]
    rfl
def smT (x : List Nat) : List (List Nat) → Int
  | [] => 0
  | y :: r => (sm x y : Int) + smT y r
theorem tail_len : ∀ (r : List (List Nat)) (x : List Nat), (∀ y ∈ r, y ≠ []) → ((tailC x r).length : Int) = (r.map fun y => ((sentGo none y).length : Int)).sum - smT x r
  | [], x, _ => rfl
  | y :: r, x, hr => by
    have ih := tail_len r y (fun z hz => hr z (List.mem_cons_of_mem _ hz))
    have h2 := (sent_seam (x.getLastD 0) y (hr y List.mem_cons_self)).2
    have h3 : sm x y ≤ (sentGo none y).length := h2
    unfold tailC smT
    rw [List.length_append, List.length_drop, List.map_cons, List.sum_cons]
    omega
-- linear forms in sixteen seams
def dot (f s : Nat → Int) : Int := ((List.range 16).map fun i => f i * s i).sum
theorem sum_add {α : Type} (f g : α → Int) : ∀ l : List α, (l.map fun i => f i + g i).sum = (l.map f).sum + (l.map g).sum
  | [] => rfl
  | x :: l => by have := sum_add f g l; simp only [List.map_cons, List.sum_cons, this]; omega
theorem sum_mul {α : Type} (c : Int) (f : α → Int) : ∀ l : List α, (l.map fun i => c * f i).sum = c * (l.map f).sum
  | [] => by simp
  | x :: l => by have := sum_mul c f l; simp only [List.map_cons, List.sum_cons, this, Int.mul_add]
theorem sum_zero {α : Type} : ∀ l : List α, (l.map fun _ => (0 : Int)).sum = 0
  | [] => rfl
  | x :: l => by have := sum_zero l; simp only [List.map_cons, List.sum_cons, this]; rfl
theorem dot_add (f g s : Nat → Int) : dot (fun i => f i + g i) s = dot f s + dot g s := by
  unfold dot; rw [← sum_add]; congr 1; apply List.map_congr_left; intro i _; exact Int.add_mul ..
theorem dot_mul (c : Int) (f s : Nat → Int) : dot (fun i => c * f i) s = c * dot f s := by
  unfold dot; rw [← sum_mul]; congr 1; apply List.map_congr_left; intro i _; exact Int.mul_assoc ..
theorem dot_congr {f g : Nat → Int} (s : Nat → Int) (h : ∀ i, i < 16 → f i = g i) : dot f s = dot g s := by
  unfold dot; congr 1; apply List.map_congr_left; intro i hi; rw [h i (List.mem_range.mp hi)]
theorem dot_zero (s : Nat → Int) : dot (fun _ => 0) s = 0 := by
  unfold dot; rw [← sum_zero (List.range 16)]; congr 1; apply List.map_congr_left; intro i _; exact Int.zero_mul _
theorem dot_sum {α : Type} (f : α → Nat → Int) (s : Nat → Int) : ∀ l : List α, dot (fun i => (l.map fun a => f a i).sum) s = (l.map fun a => dot (f a) s).sum
  | [] => dot_zero s
  | x :: l => by
    have := dot_sum f s l
    simp only [List.map_cons, List.sum_cons]
    rw [dot_add, this]
theorem sum_delta (m : Nat) (s : Nat → Int) : ∀ n, ((List.range n).map fun i => (if i = m then (1 : Int) else 0) * s i).sum = if m < n then s m else 0
  | 0 => by simp
  | n + 1 => by
    rw [List.range_succ, List.map_append, List.sum_append, sum_delta m s n]
    by_cases h : n = m
    · subst h; simp
    · simp only [List.map_cons, List.map_nil, List.sum_cons, List.sum_nil, if_neg h]
      by_cases h2 : m < n
      · rw [if_pos h2, if_pos (by omega)]; simp
      · rw [if_neg h2, if_neg (by omega)]; simp
theorem dot_delta (m : Nat) (hm : m < 16) (s : Nat → Int) : dot (fun i => if i = m then 1 else 0) s = s m := by
  unfold dot; rw [sum_delta, if_pos hm]
def adjs : List Int → List Nat
  | a :: b :: r => (4 * a.toNat + b.toNat) :: adjs (b :: r)
  | _ => []
def ind (o : List Int) (i : Nat) : Int := ((adjs o).map fun m => if i = m then (1 : Int) else 0).sum
theorem dot_ind (o : List Int) (h : ∀ m ∈ adjs o, m < 16) (s : Nat → Int) : dot (ind o) s = ((adjs o).map s).sum := by
  unfold ind
  rw [dot_sum (fun m i => if i = m then (1 : Int) else 0)]
  congr 1
  apply List.map_congr_left
  intro m hm
  exact dot_delta m (h m hm) s
end Mine
end
/-! PAlg -/
section
open PySem PySem.W PyProof.Rows
set_option linter.unusedVariables false
set_option maxRecDepth 10000
namespace Mine
def NN (n : Nat) : Int := ((ordV n).length : Int)
def cn (n : Nat) : Int := 12 / (n : Int)
def off (n i : Nat) : Int := if i / 4 < n ∧ i % 4 < n ∧ i / 4 ≠ i % 4 then 1 else 0
def nextsV (n : Nat) (o : List Int) : List (List Int) := (List.range (n - 1)).map fun j => (o.drop j).take 2
def Kf (n : Nat) (v : List Int → Int) (vb : Int) (i : Nat) : Int := ((ordV n).map fun o => (12 * ind o i - cn n * off n i) * (v o - vb)).sum / (NN n - 1)
def vbm (n : Nat) : Int := if n = 2 then 920 else if n = 3 then 0 else -460
def vbp (n : Nat) : Int := 2760 * ((n : Int) - 1)
def vm (n a b : Nat) (o : List Int) : Int := 16 * markV a b (nextsV n o)
def vp (a : Nat) (o : List Int) : Int := 16 * (345 * (o.idxOf (a : Int) : Int))
def kt (n a b i : Nat) : Int := if a = b then 0 else Kf n (vm n a b) (vbm n) i
def kp (n a i : Nat) : Int := Kf n (vp a) (vbp n) i
def rateV (n : Nat) : Int := if n = 2 then 345 else if n = 3 then 69 else 30
def wk (n i : Nat) : Int := -rateV n * (64 * (cn n * off n i))
def lk (n a b i : Nat) : Int := wk n i - 4 * (kt n a b i + ((List.range n).map fun b' => kt n a b' i).sum + ((List.range n).map fun a' => kt n a' b i).sum)
def dl (m i : Nat) : Int := if i = m then 1 else 0
/-- what is reckoned once -/
def okN (n : Nat) : Bool := (List.range 16).all fun i =>
  decide (((ordV n).map fun o => 12 * ind o i).sum = NN n * (cn n * off n i)) &&
  (List.range n).all fun a =>
    decide (((ordV n).map fun o => (12 * ind o i - cn n * off n i) * (vp a o - vbp n)).sum = (NN n - 1) * kp n a i) &&
    decide (((ordV n).map fun o => vp a o).sum = vbp n * NN n) &&
    decide (8 * kp n a i = -3 * rateV n * ((n : Int) - 1) * 256 * (((List.range n).map fun b => if a = b then 0 else dl (4 * a + b) i).sum - ((List.range n).map fun b => if b = a then 0 else dl (4 * b + a) i).sum)) &&
    (List.range n).all fun b => decide (a = b) || (
      decide (((ordV n).map fun o => (12 * ind o i - cn n * off n i) * (vm n a b o - vbm n)).sum = (NN n - 1) * kt n a b i) &&
      decide (((ordV n).map fun o => vm n a b o).sum = vbm n * NN n) &&
      decide ((n : Int) * lk n a b i + lk n b a i = -3 * rateV n * ((n : Int) * n - 1) * 256 * dl (4 * a + b) i))
theorem okN2 : okN 2 = true := by decide +kernel
theorem okN3 : okN 3 = true := by decide +kernel
theorem okN4 : okN 4 = true := by decide +kernel
structure OkN (n : Nat) : Prop where
  f1 : ∀ i, i < 16 → ((ordV n).map fun o => 12 * ind o i).sum = NN n * (cn n * off n i)
  p1 : ∀ a, a < n → ∀ i, i < 16 → ((ordV n).map fun o => (12 * ind o i - cn n * off n i) * (vp a o - vbp n)).sum = (NN n - 1) * kp n a i
  p2 : ∀ a, a < n → ((ordV n).map fun o => vp a o).sum = vbp n * NN n
  p3 : ∀ a, a < n → ∀ i, i < 16 → 8 * kp n a i = -3 * rateV n * ((n : Int) - 1) * 256 * (((List.range n).map fun b => if a = b then 0 else dl (4 * a + b) i).sum - ((List.range n).map fun b => if b = a then 0 else dl (4 * b + a) i).sum)
  m1 : ∀ a, a < n → ∀ b, b < n → a ≠ b → ∀ i, i < 16 → ((ordV n).map fun o => (12 * ind o i - cn n * off n i) * (vm n a b o - vbm n)).sum = (NN n - 1) * kt n a b i
  m2 : ∀ a, a < n → ∀ b, b < n → a ≠ b → ((ordV n).map fun o => vm n a b o).sum = vbm n * NN n
  m3 : ∀ a, a < n → ∀ b, b < n → a ≠ b → ∀ i, i < 16 → (n : Int) * lk n a b i + lk n b a i = -3 * rateV n * ((n : Int) * n - 1) * 256 * dl (4 * a + b) i
theorem okN_get {n : Nat} (h : okN n = true) : OkN n := by
  unfold okN at h
  rw [List.all_eq_true] at h
  have h' : ∀ i, i < 16 → _ := fun i hi => h i (List.mem_range.mpr hi)
  have g1 : ∀ i, i < 16 → ((ordV n).map fun o => 12 * ind o i).sum = NN n * (cn n * off n i) := fun i hi => by
    have := h' i hi
    rw [Bool.and_eq_true, decide_eq_true_eq] at this
    exact this.1
  have g2 : ∀ i, i < 16 → ∀ a, a < n → (((ordV n).map fun o => (12 * ind o i - cn n * off n i) * (vp a o - vbp n)).sum = (NN n - 1) * kp n a i) ∧ (((ordV n).map fun o => vp a o).sum = vbp n * NN n) ∧ (8 * kp n a i = -3 * rateV n * ((n : Int) - 1) * 256 * (((List.range n).map fun b => if a = b then 0 else dl (4 * a + b) i).sum - ((List.range n).map fun b => if b = a then 0 else dl (4 * b + a) i).sum)) ∧
      ∀ b, b < n → a ≠ b → (((ordV n).map fun o => (12 * ind o i - cn n * off n i) * (vm n a b o - vbm n)).sum = (NN n - 1) * kt n a b i) ∧ (((ordV n).map fun o => vm n a b o).sum = vbm n * NN n) ∧ ((n : Int) * lk n a b i + lk n b a i = -3 * rateV n * ((n : Int) * n - 1) * 256 * dl (4 * a + b) i) := fun i hi a ha => by
    have := h' i hi
    rw [Bool.and_eq_true, List.all_eq_true] at this
    have := this.2 a (List.mem_range.mpr ha)
    simp only [Bool.and_eq_true, decide_eq_true_eq, List.all_eq_true, Bool.or_eq_true] at this
    obtain ⟨⟨⟨q1, q2⟩, q3⟩, q4⟩ := this
    refine ⟨q1, q2, q3, fun b hb hne => ?_⟩
    rcases q4 b (List.mem_range.mpr hb) with q | ⟨⟨r1, r2⟩, r3⟩
    · exact absurd q hne
    · exact ⟨r1, r2, r3⟩
  exact ⟨g1, fun a ha i hi => (g2 i hi a ha).1, fun a ha => (g2 0 (by decide) a ha).2.1, fun a ha i hi => (g2 i hi a ha).2.2.1, fun a ha b hb hne i hi => ((g2 i hi a ha).2.2.2 b hb hne).1, fun a ha b hb hne => ((g2 0 (by decide) a ha).2.2.2 b hb hne).2.1, fun a ha b hb hne i hi => ((g2 i hi a ha).2.2.2 b hb hne).2.2⟩
theorem zip_maps {α : Type} (f g : α → Int) (ub vb : Int) : ∀ l : List α, ((l.map f).zip (l.map g)).map (fun q => (q.1 - ub) * (q.2 - vb)) = l.map fun o => (f o - ub) * (g o - vb)
  | [] => rfl
  | x :: l => by simp [zip_maps f g ub vb l]
theorem sum_congr' {α : Type} {f g : α → Int} {l : List α} (h : ∀ x ∈ l, f x = g x) : (l.map f).sum = (l.map g).sum := by
  congr 1; exact List.map_congr_left h
theorem sum_const {α : Type} (k : Int) : ∀ l : List α, (l.map fun _ => k).sum = (l.length : Int) * k
  | [] => by simp
  | x :: l => by have := sum_const k l; simp only [List.map_cons, List.sum_cons, this, List.length_cons]; rw [Int.natCast_add, Int.add_mul]; omega
/-- the sums, in the seams -/
def uS (A : Int) (s : Nat → Int) (n : Nat) : Int := -12 * A + cn n * dot (off n) s
theorem lin_sum {n : Nat} (k : OkN n) {A : Int} {s : Nat → Int} {ln : List Int → Int} (hl : ∀ o ∈ ordV n, ln o = A - dot (ind o) s) : ((ordV n).map fun o => -12 * ln o).sum = uS A s n * NN n := by
  have e1 : ((ordV n).map fun o => -12 * ln o).sum = ((ordV n).map fun o => -12 * A + dot (fun i => 12 * ind o i) s).sum := sum_congr' fun o ho => by rw [hl o ho, dot_mul]; omega
  rw [e1, sum_add, sum_const, ← dot_sum (fun o i => 12 * ind o i), dot_congr s (g := fun i => NN n * (cn n * off n i)) (fun i hi => k.f1 i hi), dot_mul, dot_mul]
  unfold uS NN
  rw [Int.add_mul, Int.mul_comm (cn n * _)]
  congr 1
  exact Int.mul_comm _ _
theorem lin_cov {n : Nat} {A : Int} {s : Nat → Int} {ln v : List Int → Int} {vb : Int} {K : Nat → Int} (hl : ∀ o ∈ ordV n, ln o = A - dot (ind o) s) (hK : ∀ i, i < 16 → ((ordV n).map fun o => (12 * ind o i - cn n * off n i) * (v o - vb)).sum = (NN n - 1) * K i) :
    ((((ordV n).map fun o => -12 * ln o).zip ((ordV n).map v)).map fun q => (q.1 - uS A s n) * (q.2 - vb)).sum = dot K s * (NN n - 1) := by
  rw [zip_maps]
  have e1 : ((ordV n).map fun o => (-12 * ln o - uS A s n) * (v o - vb)).sum = ((ordV n).map fun o => dot (fun i => (12 * ind o i - cn n * off n i) * (v o - vb)) s).sum := sum_congr' fun o ho => by
    have h1 : dot (fun i => (12 * ind o i - cn n * off n i) * (v o - vb)) s = (v o - vb) * dot (fun i => 12 * ind o i + -cn n * off n i) s := by
      rw [← dot_mul]
      refine dot_congr s fun i _ => ?_
      rw [Int.mul_comm, Int.neg_mul]
      congr 1
    rw [h1, dot_add, dot_mul, dot_mul, hl o ho, Int.mul_comm]
    congr 1
    unfold uS
    rw [Int.neg_mul (cn n) (dot (off n) s)]
    omega
  rw [e1, ← dot_sum (fun o i => (12 * ind o i - cn n * off n i) * (v o - vb)), dot_congr s (g := fun i => (NN n - 1) * K i) hK, dot_mul, Int.mul_comm]
theorem dot_dl (m : Nat) (hm : m < 16) (s : Nat → Int) : dot (dl m) s = s m := dot_delta m hm s
theorem dot_sub (f g s : Nat → Int) : dot (fun i => f i - g i) s = dot f s - dot g s := by
  have : (fun i => f i - g i) = fun i => f i + -1 * g i := by funext i; omega
  rw [this, dot_add, dot_mul]; omega
theorem lin_left (n a b : Nat) (s : Nat → Int) : dot (lk n a b) s = dot (wk n) s - 4 * (dot (kt n a b) s + ((List.range n).map fun b' => dot (kt n a b') s).sum + ((List.range n).map fun a' => dot (kt n a' b) s).sum) := by
  have e : lk n a b = fun i => wk n i - 4 * (kt n a b i + ((List.range n).map fun b' => kt n a b' i).sum + ((List.range n).map fun a' => kt n a' b i).sum) := rfl
  rw [e, dot_sub, dot_mul, dot_add, dot_add, dot_sum (fun b' i => kt n a b' i), dot_sum (fun a' i => kt n a' b i)]
theorem lin_wk (n : Nat) (A : Int) (s : Nat → Int) : dot (wk n) s = -rateV n * (3 * A * 256 + 4 * (16 * uS A s n)) := by
  have e : wk n = fun i => -rateV n * (64 * (cn n * off n i)) := rfl
  rw [e, dot_mul, dot_mul, dot_mul]
  congr 1
  unfold uS
  omega
theorem lin_back {n : Nat} (k : OkN n) (hn : n ≤ 4) {a b : Nat} (ha : a < n) (hb : b < n) (hne : a ≠ b) (s : Nat → Int) : (n : Int) * dot (lk n a b) s + dot (lk n b a) s = -3 * rateV n * ((n : Int) * n - 1) * 256 * s (4 * a + b) := by
  rw [← dot_mul, ← dot_add, dot_congr s (k.m3 a ha b hb hne), dot_mul, dot_dl _ (by omega)]
theorem lin_place {n : Nat} (k : OkN n) (hn : n ≤ 4) {a : Nat} (ha : a < n) (s : Nat → Int) : 8 * dot (kp n a) s = -3 * rateV n * ((n : Int) - 1) * 256 * (((List.range n).map fun b => if a = b then 0 else s (4 * a + b)).sum - ((List.range n).map fun b => if b = a then 0 else s (4 * b + a)).sum) := by
  rw [← dot_mul, dot_congr s (k.p3 a ha), dot_mul, dot_sub, dot_sum (fun b i => if a = b then 0 else dl (4 * a + b) i), dot_sum (fun b i => if b = a then 0 else dl (4 * b + a) i)]
  have e1 : ((List.range n).map fun b => dot (fun i => if a = b then 0 else dl (4 * a + b) i) s).sum = ((List.range n).map fun b => if a = b then 0 else s (4 * a + b)).sum := sum_congr' fun b hb => by
    have hb' := List.mem_range.mp hb
    by_cases q : a = b
    · simp only [if_pos q]; exact dot_zero s
    · simp only [if_neg q]; exact dot_dl _ (by omega) s
  have e2 : ((List.range n).map fun b => dot (fun i => if b = a then 0 else dl (4 * b + a) i) s).sum = ((List.range n).map fun b => if b = a then 0 else s (4 * b + a)).sum := sum_congr' fun b hb => by
    have hb' := List.mem_range.mp hb
    by_cases q : b = a
    · simp only [if_pos q]; exact dot_zero s
    · simp only [if_neg q]; exact dot_dl _ (by omega) s
  rw [e1, e2]
end Mine
end
/-! PText -/
section
open PySem PySem.W PyProof.Rows
set_option linter.unusedVariables false
set_option maxRecDepth 10000
namespace Mine
def catO (q : Nat → List Nat) (o : List Int) : List Nat := (o.map fun k => q k.toNat).flatten
def sentO (q : Nat → List Nat) (o : List Int) : List Nat := sentGo none (catO q o)
def lnO (q : Nat → List Nat) (o : List Int) : Int := ((sentO q o).length : Int)
def Lq (q : Nat → List Nat) (k : Nat) : Int := ((sentGo none (q k)).length : Int)
def sq (q : Nat → List Nat) (i : Nat) : Int := (sm (q (i / 4)) (q (i % 4)) : Int)
def Aq (q : Nat → List Nat) (n : Nat) : Int := ((List.range n).map (Lq q)).sum
theorem perm_sum {l l' : List Int} (h : l.Perm l') : l.sum = l'.sum := by
  induction h with
  | nil => rfl
  | cons x _ ih => simp only [List.sum_cons, ih]
  | swap x y l => simp only [List.sum_cons]; omega
  | trans _ _ ih1 ih2 => exact ih1.trans ih2
theorem ord_facts : ∀ n, n < 5 → ∀ o ∈ ordV n, o.length = n ∧ (∀ k ∈ o, 0 ≤ k ∧ k < n) ∧ (∀ m ∈ adjs o, m < 16) ∧ (o.map Int.toNat).isPerm (List.range n) = true ∧ (∀ m ∈ adjs o, m / 4 ≠ m % 4) := by decide +kernel
theorem sum_perm (q : Nat → List Nat) {n : Nat} {o : List Int} (h : (o.map Int.toNat).isPerm (List.range n) = true) : (o.map fun k => Lq q k.toNat).sum = Aq q n := by
  have hp := List.isPerm_iff.mp h
  have := perm_sum (hp.map (Lq q))
  rw [List.map_map] at this
  exact this
theorem smT_adjs (q : Nat → List Nat) : ∀ (r : List Int) (k : Int), (∀ x ∈ k :: r, 0 ≤ x ∧ x < 4) → smT (q k.toNat) (r.map fun x => q x.toNat) = ((adjs (k :: r)).map (sq q)).sum
  | [], k, _ => rfl
  | y :: r, k, h => by
    have h1 := h k List.mem_cons_self
    have h2 := h y (List.mem_cons_of_mem _ List.mem_cons_self)
    have ih := smT_adjs q r y (fun x hx => h x (List.mem_cons_of_mem _ hx))
    rw [List.map_cons, smT, ih, adjs, List.map_cons, List.sum_cons]
    congr 1
    unfold sq
    rw [show (4 * k.toNat + y.toNat) / 4 = k.toNat by omega, show (4 * k.toNat + y.toNat) % 4 = y.toNat by omega]
theorem ln_is (q : Nat → List Nat) (hq : ∀ k, k < 4 → q k ≠ []) {n : Nat} (h1 : 1 ≤ n) (hn : n ≤ 4) : ∀ o ∈ ordV n, lnO q o = Aq q n - dot (ind o) (sq q) := by
  intro o ho
  obtain ⟨e1, e2, e3, e4, _⟩ := ord_facts n (by omega) o ho
  rw [dot_ind o e3, ← sum_perm q e4]
  cases o with
  | nil => simp at e1; omega
  | cons k r =>
    have hk : ∀ x ∈ k :: r, 0 ≤ x ∧ x < 4 := fun x hx => by have := e2 x hx; omega
    have hne : ∀ y ∈ r.map fun x : Int => q x.toNat, y ≠ [] := by
      intro y hy
      obtain ⟨x, hx, rfl⟩ := List.mem_map.mp hy
      have := hk x (List.mem_cons_of_mem _ hx)
      exact hq _ (by omega)
    rw [← smT_adjs q r k hk]
    unfold lnO sentO catO
    rw [List.map_cons, List.flatten_cons, sent_tail _ _ none (hq _ (by have := hk k List.mem_cons_self; omega)) hne, List.length_append]
    have := tail_len (r.map fun x : Int => q x.toNat) (q k.toNat) hne
    rw [List.map_map] at this
    rw [List.map_cons, List.sum_cons, Int.natCast_add, this]
    show Lq q k.toNat + ((r.map fun x : Int => Lq q x.toNat).sum - _) = _
    omega
/-- the part behind the first piece, by places -/
def partO (q : Nat → List Nat) (o : List Int) (j : Nat) : List Nat := (sentGo none (q (o.getD (j + 1) 0).toNat)).drop (sm (q (o.getD j 0).toNat) (q (o.getD (j + 1) 0).toNat))
theorem part_tail (q : Nat → List Nat) : ∀ (r : List Int) (k : Int), tailC (q k.toNat) (r.map fun x => q x.toNat) = ((List.range r.length).map (partO q (k :: r))).flatten
  | [], k => rfl
  | y :: r, k => by
    have ih := part_tail q r y
    rw [List.map_cons, tailC, ih, List.length_cons, List.range_succ_eq_map, List.map_cons, List.flatten_cons, List.map_map]
    congr 1
theorem due_is (q : Nat → List Nat) (hq : ∀ k, k < 4 → q k ≠ []) {n : Nat} (h1 : 1 ≤ n) (hn : n ≤ 4) : ∀ o ∈ ordV n, sentGo none (q (o.getD 0 0).toNat) ++ ((List.range (n - 1)).map (partO q o)).flatten = sentO q o := by
  intro o ho
  obtain ⟨e1, e2, e3, e4, _⟩ := ord_facts n (by omega) o ho
  cases o with
  | nil => simp at e1; omega
  | cons k r =>
    have hk : ∀ x ∈ k :: r, 0 ≤ x ∧ x < 4 := fun x hx => by have := e2 x hx; omega
    have hne : ∀ y ∈ r.map fun x : Int => q x.toNat, y ≠ [] := by
      intro y hy
      obtain ⟨x, hx, rfl⟩ := List.mem_map.mp hy
      have := hk x (List.mem_cons_of_mem _ hx)
      exact hq _ (by omega)
    have hr : r.length = n - 1 := by simp at e1; omega
    unfold sentO catO
    rw [List.map_cons, List.flatten_cons, sent_tail _ _ none (hq _ (by have := hk k List.mem_cons_self; omega)) hne, part_tail, hr]
    rfl
theorem sent_chars : ∀ (l : List Nat) (bf : Option Nat) (B : Nat), 46 < B → (∀ a ∈ l, a < B) → ∀ a ∈ sentGo bf l, a < B
  | [], bf, B, _, _, a, h => by simp [sentGo] at h
  | k :: r, bf, B, hB, hl, a, h => by
    unfold sentGo at h
    rcases List.mem_append.mp h with h | h
    · have := hl k List.mem_cons_self
      unfold chunk at h
      (repeat' split at h) <;> simp at h <;> omega
    · exact sent_chars r _ B hB (fun x hx => hl x (List.mem_cons_of_mem _ hx)) a h
theorem sent_len (l : List Nat) : (sentGo none l).length ≤ 4 * l.length := by
  rw [sent_is]
  have h1 := dots_len (norm l) true
  have h2 := norm_len _ l (Nat.le_refl _)
  omega
theorem cat_len (q : Nat → List Nat) (hq : ∀ k, k < 4 → (q k).length ≤ 4) : ∀ (o : List Int), (∀ k ∈ o, 0 ≤ k ∧ k < 4) → (catO q o).length ≤ 4 * o.length
  | [], _ => by simp [catO]
  | k :: r, h => by
    have ih := cat_len q hq r (fun x hx => h x (List.mem_cons_of_mem _ hx))
    have h1 := h k List.mem_cons_self
    have h2 := hq k.toNat (by omega)
    unfold catO at ih ⊢
    rw [List.map_cons, List.flatten_cons, List.length_append, List.length_cons]
    omega
theorem cat_chars (q : Nat → List Nat) (B : Nat) (hq : ∀ k, k < 4 → ∀ a ∈ q k, a < B) (o : List Int) (h : ∀ k ∈ o, 0 ≤ k ∧ k < 4) : ∀ a ∈ catO q o, a < B := by
  intro a ha
  unfold catO at ha
  obtain ⟨l, hl, ha⟩ := List.mem_flatten.mp ha
  obtain ⟨k, hk, rfl⟩ := List.mem_map.mp hl
  have := h k hk
  exact hq _ (by omega) a ha
theorem cat_ne (q : Nat → List Nat) (hq : ∀ k, k < 4 → q k ≠ []) {o : List Int} (h0 : o ≠ []) (h : ∀ k ∈ o, 0 ≤ k ∧ k < 4) : catO q o ≠ [] := by
  cases o with
  | nil => exact absurd rfl h0
  | cons k r =>
    have h1 := h k List.mem_cons_self
    have h2 := hq k.toNat (by omega)
    unfold catO
    rw [List.map_cons, List.flatten_cons]
    intro e
    exact h2 (List.append_eq_nil_iff.mp e).1
end Mine
end
/-! RB1 -/
section
open PySem PySem.W PyProof.Rows
set_option linter.unusedVariables false
set_option maxRecDepth 10000
namespace Mine
open PySem.Float64
noncomputable def rbBody : List Stmt := match (fdAt 131).body with | .stmts b => b | _ => []
structure QOk (q : Nat → List Nat) : Prop where
  ne : ∀ k, k < 4 → q k ≠ []
  le : ∀ k, k < 4 → (q k).length ≤ 4
  ch : ∀ k, k < 4 → ∀ a ∈ q k, a < 15625
def tx (l : List Nat) : D := .str ⟨l.toArray⟩
def PD (q : Nat → List Nat) : D := .list ((List.range 4).map fun k => tx (q k))
def AD (q : Nat → List Nat) : D := .list ((List.range 4).map fun k => tx (sentGo none (q k)))
def seamI (q : Nat → List Nat) (a b : Nat) : Int := if a = b then 0 else (sm (q a) (q b) : Int)
def rowI (q : Nat → List Nat) (a : Nat) : List Int := (List.range 4).map fun b => seamI q a b
def SD (q : Nat → List Nat) : D := .list ((List.range 4).map fun a => LI (rowI q a))
def rb0 (q : Nat → List Nat) (n : Nat) : Rho := [(Str.ofString "pieces", PD q), (Str.ofString "alone", AD q), (Str.ofString "seams", SD q), (Str.ofString "n", .int n)]
def rb1 (q : Nat → List Nat) (n : Nat) : Rho := (Str.ofString "orders", LLI (ordV n)) :: rb0 q n
def sentD (q : Nat → List Nat) (n : Nat) : D := .list ((ordV n).map fun o => tx (sentO q o))
theorem four_get {α : Type} (f : Nat → α) {k : Nat} (hk : k < 4) : ((List.range 4).map f)[k]? = some (f k) := by
  rw [List.getElem?_map, List.getElem?_range hk]; rfl
theorem ints_get (o : List Int) {j : Nat} (hj : j < o.length) : (o.map D.int)[j]? = some (.int (o.getD j 0)) := by
  rw [List.getElem?_map, List.getElem?_eq_getElem hj, List.getD_eq_getElem?_getD, List.getElem?_eq_getElem hj]; rfl
theorem getD_mem (o : List Int) {j : Nat} (hj : j < o.length) : o.getD j 0 ∈ o := by
  rw [List.getD_eq_getElem?_getD, List.getElem?_eq_getElem hj]; exact List.getElem_mem hj
theorem bigZ : sizeLine = 2 ^ 24 := rfl
theorem tx_len (l : List Nat) : (⟨l.toArray⟩ : Str).length = l.length := by simp [Str.length]
theorem seam_le (x y : List Nat) (hy : y ≠ []) : sm x y ≤ (sentGo none y).length := (sent_seam (x.getLastD 0) y hy).2
theorem adj_mem : ∀ (o : List Int) {j : Nat}, j + 1 < o.length → 4 * (o.getD j 0).toNat + (o.getD (j + 1) 0).toNat ∈ adjs o
  | [], j, h => by simp at h
  | [a], j, h => by simp at h
  | a :: b :: r, 0, h => by simp [adjs]
  | a :: b :: r, j + 1, h => by
    have := adj_mem (b :: r) (j := j) (by simpa using h)
    rw [adjs]
    exact List.mem_cons_of_mem _ (by simpa using this)
theorem adj_ne (o : List Int) {n j : Nat} (e1 : o.length = n) (e2 : ∀ k ∈ o, 0 ≤ k ∧ k < (n : Int)) (hn : n ≤ 4) (e5 : ∀ m ∈ adjs o, m / 4 ≠ m % 4) (hj : j < n - 1) : (o.getD j 0).toNat ≠ (o.getD (j + 1) 0).toNat := by
  intro h
  have h1 := adj_mem o (j := j) (by omega)
  have h2 := e5 _ h1
  have h3 := e2 _ (getD_mem o (j := j + 1) (by omega))
  rw [h] at h2
  omega
theorem sum_le_mul : ∀ (l : List Str) (B : Nat), (∀ x ∈ l, x.length ≤ B) → (l.map (·.length)).sum ≤ l.length * B
  | [], B, _ => by simp
  | x :: l, B, h => by
    have h1 := sum_le_mul l B (fun y hy => h y (List.mem_cons_of_mem _ hy))
    have h2 := h x List.mem_cons_self
    simp only [List.map_cons, List.sum_cons, List.length_cons, Nat.add_mul]
    omega
section
variable {c : Cx} {A : Around}
set_option maxHeartbeats 1000000 in
/-- one order's due text -/
theorem due_elem (O : c.Ok) {L : Addr} (hR : Rm A 6) {q : Nat → List Nat} (hq : QOk q) {n : Nat} (h2 : 2 ≤ n) (hn : n ≤ 4) {o : List Int} (ho : o ∈ ordV n) {e : Expr}
    (he : e = (match rbBody with | _ :: _ :: .For _ _ [.Expr (.Call _ [e] _ _) _] _ _ :: _ => e | _ => .Constant .none 0 ⟨0, 0, 0, 0⟩)) :
    Ev c A (callEnvC (fdAt 131) L 131) ((Str.ofString "o", LI o) :: rb1 q n) (eval e (callEnvC (fdAt 131) L 131)) (tx (sentO q o)) := by
  subst he
  obtain ⟨e1, e2, e3, e4, e5⟩ := ord_facts n (by omega) o ho
  have hk : ∀ j, j < n → 0 ≤ o.getD j 0 ∧ o.getD j 0 < 4 := fun j hj => by have := e2 _ (getD_mem o (j := j) (by omega)); omega
  have ok : EnvOk (callEnvC (fdAt 131) L 131) := callEnv_ok rfl rfl rfl
  have hsl := bigZ
  have k0 := hk 0 (by omega)
  have hg0 : (o.map D.int)[(0 : Int).toNat]? = some (.int (o.getD 0 0)) := ints_get o (by omega)
  have hlen0 : (sentGo none (q (o.getD 0 0).toNat)).length ≤ 16 := by have := sent_len (q (o.getD 0 0).toNat); have := hq.le (o.getD 0 0).toNat (by omega); omega
  have hlenj : ∀ j, j < n → (sentGo none (q (o.getD j 0).toNat)).length ≤ 16 := fun j hj => by have := sent_len (q (o.getD j 0).toNat); have := hk j hj; have := hq.le (o.getD j 0).toNat (by omega); omega
  refine (ev_BinOp (d₁ := tx (sentGo none (q (o.getD 0 0).toNat))) (d₂ := .str (Txt.join (Str.ofString "") ((List.range (n - 1)).map fun j => (⟨(partO q o j).toArray⟩ : Str)))) (ev_item (ev_Name rfl rfl rfl rfl) (ev_item (ev_Name rfl rfl rfl rfl) ev_int (by decide) (by decide) hg0) k0.1 (by omega) (four_get _ (by omega))) (ev_join rfl rfl rfl ev_str (ev_ListComp (ds := (List.range (n - 1)).map fun (j : Nat) => D.int (1 + j)) (es := ((List.range (n - 1)).map fun j => (⟨(partO q o j).toArray⟩ : Str)).map .str) O hR.hd rfl rfl (by decide +kernel) (.inl rfl) (by decide +kernel) (it_range2 O ok rfl rfl (bi_range O) ev_int ((ev_Name rfl rfl rfl rfl).cast (by congr 1; omega)) (by decide) (by decide) (by omega)) (by simp) ?_ (by simp; omega)) ?_) (op_add_str ?_)).cast ?_
  · intro c' C O' _ _ _ _ _ j d e hd he
    have hj : j < n - 1 := by
      have := (List.getElem?_eq_some_iff.mp hd).1
      simpa using this
    have ed : d = .int (1 + j) := by rw [List.getElem?_map, List.getElem?_range hj] at hd; cases hd; rfl
    have ee : e = .str ⟨(partO q o j).toArray⟩ := by rw [List.getElem?_map, List.getElem?_map, List.getElem?_range hj] at he; cases he; rfl
    subst ed ee
    have kj := hk j (by omega)
    have kj1 := hk (j + 1) (by omega)
    have hne : (o.getD j 0).toNat ≠ (o.getD (j + 1) 0).toNat := adj_ne o e1 e2 hn e5 hj
    have hget1 : (o.map D.int)[((1 : Int) + j).toNat]? = some (.int (o.getD (j + 1) 0)) := by
      rw [show ((1 : Int) + j).toNat = j + 1 by omega]
      exact ints_get o (by omega)
    have hget0 : (o.map D.int)[((1 : Int) + j - 1).toNat]? = some (.int (o.getD j 0)) := by
      rw [show ((1 : Int) + j - 1).toNat = j by omega]
      exact ints_get o (by omega)
    have hrow : ((rowI q (o.getD j 0).toNat).map D.int)[(o.getD (j + 1) 0).toNat]? = some (.int ((sm (q (o.getD j 0).toNat) (q (o.getD (j + 1) 0).toNat) : Nat) : Int)) := by
      unfold rowI
      rw [List.map_map, four_get _ (by omega)]
      simp only [Function.comp_apply, seamI, if_neg hne]
    have hle := seam_le (q (o.getD j 0).toNat) (q (o.getD (j + 1) 0).toNat) (hq.ne _ (by omega))
    have hl1 := hlenj (j + 1) (by omega)
    exact ev_rest (x := ⟨(sentGo none (q (o.getD (j + 1) 0).toNat)).toArray⟩) (k := sm (q (o.getD j 0).toNat) (q (o.getD (j + 1) 0).toNat)) (ev_item (ev_Name rfl rfl rfl rfl) (ev_item (ev_Name rfl rfl rfl rfl) (ev_Name rfl rfl rfl rfl) (by omega) (by omega) hget1) kj1.1 (by omega) (four_get _ (by omega)))
      (ev_item (ev_item (ev_Name rfl rfl rfl rfl) (ev_item (ev_Name rfl rfl rfl rfl) (ev_BinOp (ev_Name rfl rfl rfl rfl) ev_int op_sub_int) (by omega) (by omega) hget0) kj.1 (by omega) (four_get _ (by omega))) (ev_item (ev_Name rfl rfl rfl rfl) (ev_Name rfl rfl rfl rfl) (by omega) (by omega) hget1) kj1.1 (by omega) hrow)
      (by rw [tx_len]; exact hle) (by rw [tx_len]; omega)
  · refine joinOk_of ?_
    have h3 : (((List.range (n - 1)).map fun j => (⟨(partO q o j).toArray⟩ : Str)).map (·.length)).sum ≤ (n - 1) * 16 := by
      have := sum_le_mul ((List.range (n - 1)).map fun j => (⟨(partO q o j).toArray⟩ : Str)) 16 (by
        intro x hx
        obtain ⟨j, hj, rfl⟩ := List.mem_map.mp hx
        have hj' := List.mem_range.mp hj
        have := hlenj (j + 1) (by omega)
        rw [tx_len]
        unfold partO
        rw [List.length_drop]
        omega)
      simpa using this
    rw [s_nil]
    show _ + _ * 0 ≤ _
    have : (n - 1) * 16 ≤ 3 * 16 := Nat.mul_le_mul_right _ (by omega)
    omega
  · have hj : (Txt.join (Str.ofString "") ((List.range (n - 1)).map fun j => (⟨(partO q o j).toArray⟩ : Str))).length ≤ 1000 := by
      rw [join_nil, tx_len]
      have h1 := congrArg List.length (due_is q hq.ne (by omega) hn o ho)
      rw [List.length_append] at h1
      have h4 := sent_len (catO q o)
      have h5 := cat_len q hq.le o (fun k hk' => by have := e2 k hk'; omega)
      have h6 : (sentO q o).length ≤ 4 * (4 * o.length) := Nat.le_trans h4 (Nat.mul_le_mul_left 4 h5)
      rw [List.map_map]
      show ((List.range (n - 1)).map (partO q o)).flatten.length ≤ 1000
      omega
    rw [tx_len]
    omega
  · rw [join_nil, List.map_map]
    have h1 := due_is q hq.ne (by omega) hn o ho
    show D.str (⟨(sentGo none (q (o.getD 0 0).toNat)).toArray⟩ ++ ⟨(((List.range (n - 1)).map (partO q o)).flatten).toArray⟩) = tx (sentO q o)
    unfold tx
    rw [← h1]
    congr 1
    show Str.mk _ = Str.mk _
    congr 1
    simp
end
end Mine
end
/-! RB2 -/
section
open PySem PySem.W PyProof.Rows
set_option linter.unusedVariables false
set_option maxRecDepth 10000
namespace Mine
open PySem.Float64
def rb2 (q : Nat → List Nat) (n : Nat) : Rho := (Str.ofString "due", sentD q n) :: rb1 q n
def rb3 (q : Nat → List Nat) (n : Nat) : Rho := (Str.ofString "sent", sentD q n) :: rb2 q n
theorem eqv_tx (l m : List Nat) : PyData.eqv (toP (tx l)) (toP (tx m)) = decide (l = m) := by
  unfold tx
  simp only [toP, PyData.eqv]
  by_cases h : l = m
  · subst h; simp
  · simp only [h, decide_false]
    rw [beq_eq_false_iff_ne]
    intro e
    injection e with e
    exact h (by simpa using e)
theorem eqv_txs {α : Type} (f : α → List Nat) : ∀ l : List α, PyData.eqvAll (toPs (l.map fun o => tx (f o))) (toPs (l.map fun o => tx (f o))) = true
  | [] => rfl
  | x :: l => by simp only [List.map_cons, toPs, PyData.eqvAll, eqv_tx, eqv_txs f l]; simp
theorem shaped_txs {α : Type} (f : α → List Nat) (l : List α) (h : ∀ o ∈ l, ∀ a ∈ f o, a < 0x110000) : SeqAt.shaped (toP (.list (l.map fun o => tx (f o)))) = true := by
  have h1 : ∀ l : List α, (∀ o ∈ l, ∀ a ∈ f o, a < 0x110000) → PyData.canLayAll0 (toPs (l.map fun o => tx (f o))) = true := by
    intro l
    induction l with
    | nil => intro _; rfl
    | cons x l ih =>
      intro h
      simp only [List.map_cons, toPs, PyData.canLayAll0, ih (fun o ho => h o (List.mem_cons_of_mem _ ho)), Bool.and_true]
      show PyData.strOk _ = true
      unfold PyData.strOk
      simpa using h x List.mem_cons_self
  have h2 : ∀ l : List α, PyData.depthAll (toPs (l.map fun o => tx (f o))) = 0 := by
    intro l
    induction l with
    | nil => rfl
    | cons x l ih =>
      simp only [List.map_cons, toPs, PyData.depthAll, ih]
      rfl
  unfold SeqAt.shaped
  simp only [toP, PyData.canLay0, PyData.depth, h1 l h, h2 l]
  rfl
theorem noF_txs {α : Type} (f : α → List Nat) (l : List α) : noF (.list (l.map fun o => tx (f o))) = true := by
  rw [noF]; exact noFs_map _ (fun _ => rfl) l
section
variable {c : Cx} {A : Around}
theorem bi_orders (O : c.Ok) : c.mg "_law_orders" = some (.ref 107) := mg_is O rfl
set_option maxHeartbeats 1000000 in
theorem rb_due (O : c.Ok) {L : Addr} (hR : Rm A 6) {q : Nat → List Nat} (hq : QOk q) {n : Nat} (h2 : 2 ≤ n) (hn : n ≤ 4) {oc : Oc}
    (h : Ex c (fun _ => False) A (callEnvC (fdAt 131) L 131) (rb2 q n) (execs (rbBody.drop 3) (callEnvC (fdAt 131) L 131)) oc) : Ex c (fun _ => False) A (callEnvC (fdAt 131) L 131) (rb0 q n) (execs rbBody (callEnvC (fdAt 131) L 131)) oc := by
  have ok : EnvOk (callEnvC (fdAt 131) L 131) := callEnv_ok rfl rfl rfl
  have hsl := bigZ
  have hlen := (ord_len n (by omega)).1
  refine ex_next (ρ' := rb1 q n) (ex_Assign O rfl (.inl rfl) (ev_call O ok rfl rfl (bi_orders O) (O.K 107 _ rfl) rfl (evl_cons (ev_Name rfl rfl rfl rfl) evl_nil) (fn_orders O (hR.le (by omega)) (by omega))) rfl) ?_
  refine ex_open O rfl (.inl rfl) rfl fun a hna ha0 => ?_
  have hln : ((ordV n).map LI).length = (ordV n).length := by simp
  have hfor := exo_For (c := c.or1 a) (A := A) (env := callEnvC (fdAt 131) L 131) (out := Str.ofString "due") (a := a) (x := Str.ofString "o") (px := ⟨86, 8, 86, 9⟩) (pos := ⟨86, 4, 87, 101⟩)
    (body := (match rbBody with | _ :: _ :: .For _ _ b _ _ :: _ => b | _ => [])) (iter := .Name (Str.ofString "orders") ⟨86, 13, 86, 19⟩) (ρ := rb1 q n)
    (ds := (ordV n).map LI) (xs := []) (fun _ => rb1 q n) (fun i => ((ordV n).take i).map fun o => tx (sentO q o)) (O.or1 a) hR.hd rfl (.inr ⟨rfl, rfl⟩) (by decide +kernel) (.inr rfl)
    (it_list (ev_Name rfl rfl rfl rfl)) (fun _ _ e => e) rfl ?_
  · rw [hln, List.take_of_length_le (Nat.le_refl _)] at hfor
    refine exq_next hfor ?_
    exact exq_close (W := fun _ => False) hna h
  · intro i d hd
    rw [List.getElem?_map] at hd
    cases e : (ordV n)[i]? with
    | none => rw [e] at hd; cases hd
    | some o =>
      rw [e] at hd
      cases hd
      have ho : o ∈ ordV n := List.mem_of_getElem? e
      refine ((exo_cons (exo_append (O.or1 a) rfl (.inr rfl) ha0 (due_elem (O.or1 a) hR hq h2 hn ho rfl) (by simp; omega) rfl rfl rfl rfl rfl rfl) exo_nil).castX ?_).weak (fun _ _ e => e) ?_
      · show (((ordV n).take i).map fun o => tx (sentO q o)) ++ [tx (sentO q o)] = ((ordV n).take (i + 1)).map fun o => tx (sentO q o)
        rw [List.take_add_one, e]
        simp
      · intro x d hx
        rw [List.lookup_cons]
        cases hxo : x == Str.ofString "o" with
        | false => exact hx
        | true =>
          rw [eq_of_beq hxo] at hx
          cases hx
end
end Mine
end
/-! RB3 -/
section
open PySem PySem.W PyProof.Rows
set_option linter.unusedVariables false
set_option maxRecDepth 10000
namespace Mine
open PySem.Float64
theorem list_get' {α : Type} {f : α → D} {l : List α} {i : Nat} {d : D} (h : (l.map f)[i]? = some d) : ∃ x, l[i]? = some x ∧ d = f x ∧ x ∈ l := by
  rw [List.getElem?_map] at h
  cases e : l[i]? with
  | none => rw [e] at h; cases h
  | some x => rw [e] at h; cases h; exact ⟨x, rfl, rfl, List.mem_of_getElem? e⟩
theorem list_get2 {α : Type} {f g : α → D} {l : List α} {i : Nat} {d e : D} (h : (l.map f)[i]? = some d) (h' : (l.map g)[i]? = some e) : ∃ x, l[i]? = some x ∧ d = f x ∧ e = g x ∧ x ∈ l := by
  obtain ⟨x, h1, h2, h3⟩ := list_get' h
  obtain ⟨y, k1, k2, _⟩ := list_get' h'
  rw [h1] at k1; cases k1
  exact ⟨x, h1, h2, k2, h3⟩
section
variable {c : Cx} {A : Around}
set_option maxHeartbeats 1000000 in
theorem rb_sent (O : c.Ok) {L : Addr} (hR : Rm A 6) {q : Nat → List Nat} (hq : QOk q) {n : Nat} (h2 : 2 ≤ n) (hn : n ≤ 4) {oc : Oc}
    (h : Ex c (fun _ => False) A (callEnvC (fdAt 131) L 131) (rb3 q n) (execs (rbBody.drop 5) (callEnvC (fdAt 131) L 131)) oc) : Ex c (fun _ => False) A (callEnvC (fdAt 131) L 131) (rb2 q n) (execs (rbBody.drop 3) (callEnvC (fdAt 131) L 131)) oc := by
  have hsl := bigZ
  have hlen := (ord_len n (by omega)).1
  have facts := ord_facts n (by omega)
  refine ex_next (ρ' := rb3 q n) (ex_AssignComp (ds := (ordV n).map LI) (es := (ordV n).map fun o => tx (sentO q o)) O hR.hd rfl (.inl rfl) rfl rfl rfl (by decide +kernel) (.inl rfl) (by decide +kernel) (it_list (ev_Name rfl rfl rfl rfl)) (by simp) ?_ (by simp; omega)) ?_
  · intro c' C O' h1 h2 h3 h4 h5 i d e hd he
    obtain ⟨o, _, rfl, rfl, ho⟩ := list_get2 hd he
    obtain ⟨e1, e2, _⟩ := facts o ho
    have hk : ∀ k ∈ o, 0 ≤ k ∧ k < 4 := fun k hk => by have := e2 k hk; omega
    have hcl := cat_len q hq.le o hk
    have hcn := cat_ne q hq.ne (o := o) (by intro e; rw [e] at e1; simp at e1; omega) hk
    refine ev_call O' ⟨rfl, rfl, rfl⟩ rfl rfl (mg_is O' rfl) (O'.K 97 _ rfl) rfl (evl_cons ((ev_join (ss := o.map fun k => (⟨(q k.toNat).toArray⟩ : Str)) rfl rfl rfl ev_str (ev_ListComp (ds := o.map .int) (es := (o.map fun k => (⟨(q k.toNat).toArray⟩ : Str)).map .str) O' hR.hd rfl rfl (by decide +kernel) (.inl rfl) (by decide +kernel) (it_list (ev_Name rfl rfl rfl rfl)) (by simp) ?_ (by simp; omega)) ?_).cast (d' := .str ⟨(catO q o).toArray⟩) ?_) evl_nil) (fn_quote O' (hR.le (by omega)) (by rw [tx_len]; omega) ?_)
    · intro c'' C' O'' _ _ _ _ _ i d e hd he
      rw [List.map_map] at he
      obtain ⟨k, _, rfl, rfl, hk'⟩ := list_get2 hd he
      have := hk k hk'
      exact ev_item (ev_Name rfl rfl rfl rfl) (ev_Name rfl rfl rfl rfl) this.1 (by omega) (four_get _ (by omega))
    · refine joinOk_of ?_
      have := sum_le_mul (o.map fun k => (⟨(q k.toNat).toArray⟩ : Str)) 4 (by
        intro x hx
        obtain ⟨k, hk', rfl⟩ := List.mem_map.mp hx
        have := hk k hk'
        rw [tx_len]
        exact hq.le _ (by omega))
      rw [s_nil]
      show _ + _ * 0 ≤ _
      simp only [List.length_map] at this
      omega
    · rw [join_nil, List.map_map]
      rfl
    · rw [tx_len]
      intro e
      exact hcn (List.eq_nil_of_length_eq_zero e)
  · have hch : ∀ o ∈ ordV n, ∀ a ∈ sentO q o, a < 0x110000 := by
      intro o ho a ha
      obtain ⟨e1, e2, _⟩ := facts o ho
      have := sent_chars (catO q o) none 15625 (by decide) (cat_chars q 15625 hq.ch o (fun k hk => by have := e2 k hk; omega)) a ha
      omega
    have hne : (!PyData.eqv (toP (sentD q n)) (toP (sentD q n))) = false := by
      unfold sentD
      simp only [toP, PyData.eqv, eqv_txs]
      rfl
    exact ex_next (ex_If (tv := false) ((tv_Compare (ev_Name rfl rfl rfl rfl) (ev_Name rfl rfl rfl rfl) (cmp_ne_data (noF_txs _ _) (noF_txs _ _) (shaped_txs _ _ hch) (shaped_txs _ _ hch) hR.room) rfl).cast hne) nofun (fun _ => ex_nil)) h
end
end Mine
end
/-! RB4 -/
section
open PySem PySem.W PyProof.Rows
set_option linter.unusedVariables false
set_option maxRecDepth 10000
namespace Mine
open PySem.Float64
def szB (l : Nat) : UInt64 := ofFrac (decide (-3 * (l : Int) < 0) != decide ((4 : Int) < 0)) (-3 * (l : Int)).natAbs (4 : Int).natAbs
theorem szB_ok (l : Nat) (h : l ≤ 1000) : Fx (szB l) (16 * (-12 * (l : Int))) := fx_ofFrac (a := -3 * (l : Int)) (b := 4) (by decide) (by omega) (by omega)
def szs (q : Nat → List Nat) (n : Nat) : List D := (ordV n).map fun o => .flt (szB (sentO q o).length)
def usq (q : Nat → List Nat) (n : Nat) : List Int := (ordV n).map fun o => -12 * lnO q o
def nxs (n : Nat) : List (List (List Int)) := (ordV n).map (nextsV n)
def rb4 (q : Nat → List Nat) (n : Nat) : Rho := (Str.ofString "nexts", .list ((nxs n).map LLI')) :: (Str.ofString "sizes", .list (szs q n)) :: rb3 q n
theorem nms_map {α : Type} (f : α → D) (g : α → Int) : ∀ l : List α, (∀ x ∈ l, Nm (f x) (g x)) → Nms (l.map f) (l.map g)
  | [], _ => .nil
  | x :: l, h => .cons (h x List.mem_cons_self) (nms_map f g l fun y hy => h y (List.mem_cons_of_mem _ hy))
theorem intBits_small {a : Int} (h : a.natAbs < 2 ^ 64) : IntMulOk a 1 ∨ True := .inr trivial
section
variable {c : Cx} {A : Around}
theorem sent_small {q : Nat → List Nat} (hq : QOk q) {n : Nat} (hn : n ≤ 4) {o : List Int} (ho : o ∈ ordV n) : (sentO q o).length ≤ 64 := by
  obtain ⟨e1, e2, _⟩ := ord_facts n (by omega) o ho
  have h1 := cat_len q hq.le o (fun k hk => by have := e2 k hk; omega)
  have h2 := sent_len (catO q o)
  unfold sentO
  omega
theorem szs_ok {q : Nat → List Nat} (hq : QOk q) {n : Nat} (hn : n ≤ 4) : Nms (szs q n) (x16 (usq q n)) := by
  unfold szs usq x16
  rw [List.map_map]
  exact nms_map _ _ _ fun o ho => .flt (szB_ok _ (by have := sent_small hq hn ho; omega))
set_option maxHeartbeats 1000000 in
theorem rb_sizes (O : c.Ok) {L : Addr} (hR : Rm A 6) {q : Nat → List Nat} (hq : QOk q) {n : Nat} (h2 : 2 ≤ n) (hn : n ≤ 4) {oc : Oc}
    (h : Ex c (fun _ => False) A (callEnvC (fdAt 131) L 131) (rb4 q n) (execs (rbBody.drop 7) (callEnvC (fdAt 131) L 131)) oc) : Ex c (fun _ => False) A (callEnvC (fdAt 131) L 131) (rb3 q n) (execs (rbBody.drop 5) (callEnvC (fdAt 131) L 131)) oc := by
  have hsl := bigZ
  have hlen := (ord_len n (by omega)).1
  have facts := ord_facts n (by omega)
  refine ex_next (ρ' := (Str.ofString "sizes", .list (szs q n)) :: rb3 q n) (ex_Assign O rfl (.inr ⟨rfl, rfl⟩) (ev_ListComp (ds := (ordV n).map fun o => tx (sentO q o)) (es := szs q n) O hR.hd rfl rfl (by decide +kernel) (.inl rfl) (by decide +kernel) (it_list (ev_Name rfl rfl rfl rfl)) (by simp [szs]) ?_ (by simp [szs]; omega)) rfl) ?_
  · intro c' C O' h1 h2 h3 h4 h5 i d e hd he
    obtain ⟨o, _, rfl, rfl, ho⟩ := list_get2 hd he
    have hs := sent_small hq hn ho
    have hfx := szB_ok (sentO q o).length (by omega)
    exact ev_BinOp (ev_BinOp (ev_UnaryOp ev_int op_neg_int) ((ev_callB O' ⟨rfl, rfl, rfl⟩ rfl rfl (.inr (bi_len O')) (evl_cons (ev_Name rfl rfl rfl rfl) evl_nil) (fn_len_str (x := ⟨(sentO q o).toArray⟩) (by rw [tx_len]; omega))).cast (d' := .int ((sentO q o).length : Int)) (by rw [tx_len])) (op_mul_int (.of_left (by decide)))) ev_int (op_div_ii (by decide) (fx_inf hfx))
  refine ex_next (ρ' := rb4 q n) (ex_Assign O rfl (.inr ⟨rfl, rfl⟩) (ev_ListComp (ds := (ordV n).map LI) (es := (nxs n).map LLI') O hR.hd rfl rfl (by decide +kernel) (.inr rfl) (by decide +kernel) (it_list (ev_Name rfl rfl rfl rfl)) (by simp [nxs]) ?_ (by simp [nxs]; omega)) rfl) h
  intro c' C O' h1 h2' h3 h4 h5 i d e hd he
  unfold nxs at he
  rw [List.map_map] at he
  obtain ⟨o, _, rfl, rfl, ho⟩ := list_get2 hd he
  obtain ⟨e1, e2, _⟩ := facts o ho
  refine (ev_ListComp (ds := (List.range (n - 1)).map fun (j : Nat) => D.int j) (es := (nextsV n o).map LI) O' hR.hd rfl rfl (by decide +kernel) (.inl rfl) (by decide +kernel) (it_range1 O' ⟨rfl, rfl, rfl⟩ rfl rfl (bi_range O') ((ev_BinOp (ev_Name rfl rfl rfl rfl) ev_int op_sub_int).cast (by congr 1; omega)) (by omega)) (by simp [nextsV]) ?_ (by simp [nextsV]; omega)).cast rfl
  intro c'' C' O'' _ _ _ _ _ j d e hd he
  unfold nextsV at he
  rw [List.map_map] at he
  obtain ⟨x, hx, rfl, rfl, hj⟩ := list_get2 hd he
  have hj' := List.mem_range.mp hj
  refine (ev_sliceL (lo := some (x : Int)) (hi := some ((x + 2 : Nat) : Int)) (k := none) (ev_Name rfl rfl rfl rfl) (evp_some (ev_Name rfl rfl rfl rfl)) (evp_some ((ev_BinOp (ev_Name rfl rfl rfl rfl) ev_int op_add_int).cast (by congr 1))) evp_none (by simp) (by simp; omega)).cast ?_
  rw [sliceL_run _ _ _ (by omega), show x + 2 - x = 2 by omega]
  show D.list (List.take 2 (List.drop x (o.map D.int))) = LI (List.take 2 (List.drop x o))
  unfold LI
  rw [List.map_take, List.map_drop]
end
end Mine
end
/-! RB5 -/
section
open PySem PySem.W PyProof.Rows
set_option linter.unusedVariables false
set_option maxRecDepth 10000
namespace Mine
open PySem.Float64
theorem okN_of {n : Nat} (h2 : 2 ≤ n) (hn : n ≤ 4) : OkN n := by
  have : n = 2 ∨ n = 3 ∨ n = 4 := by omega
  rcases this with rfl | rfl | rfl
  · exact okN_get okN2
  · exact okN_get okN3
  · exact okN_get okN4
theorem ord_big : ∀ n, n < 5 → 2 ≤ n → 2 ≤ (ordV n).length := by decide +kernel
theorem sum_abs_le {l : List Int} {B N : Nat} (hl : l.length ≤ N) (h : ∀ u ∈ l, u.natAbs ≤ B) : l.sum.natAbs ≤ N * B := by
  have h1 := sum_le_abs l
  have h2 := absSum_le l B h
  have h3 : l.length * B ≤ N * B := Nat.mul_le_mul_right B hl
  omega
theorem usq_bd {q : Nat → List Nat} (hq : QOk q) {n : Nat} (hn : n ≤ 4) : ∀ u ∈ usq q n, u.natAbs ≤ 768 := by
  intro u hu
  unfold usq at hu
  obtain ⟨o, ho, rfl⟩ := List.mem_map.mp hu
  have := sent_small hq hn ho
  unfold lnO
  omega
theorem usq_sum {q : Nat → List Nat} (hq : QOk q) {n : Nat} (h2 : 2 ≤ n) (hn : n ≤ 4) : (usq q n).sum = uS (Aq q n) (sq q) n * NN n := lin_sum (okN_of h2 hn) (ln_is q hq.ne (by omega) hn)
theorem le_of_mul {a N B : Nat} (h0 : 0 < N) (h : a * N ≤ N * B) : a ≤ B := by
  rw [Nat.mul_comm] at h
  exact Nat.le_of_mul_le_mul_left h h0
theorem ub_bd {q : Nat → List Nat} (hq : QOk q) {n : Nat} (h2 : 2 ≤ n) (hn : n ≤ 4) : (uS (Aq q n) (sq q) n).natAbs ≤ 768 := by
  have h1 := usq_sum hq h2 hn
  have h3 := sum_abs_le (N := (ordV n).length) (by simp [usq]) (usq_bd hq hn)
  rw [h1, Int.natAbs_mul] at h3
  have := ord_big n (by omega) h2
  exact le_of_mul (N := (ordV n).length) (by omega) h3
theorem T_bd {us vs : List Int} {ub vb T : Int} {N : Nat} (hN : N ≤ 24) (h2 : 2 ≤ N) (hl : us.length ≤ N) (h1 : ∀ u ∈ us, u.natAbs ≤ 768) (h3 : ∀ v ∈ vs, v.natAbs ≤ 2 ^ 15) (hub : ub.natAbs ≤ 768) (hvb : vb.natAbs ≤ 2 ^ 15)
    (hT : ((us.zip vs).map fun q => (q.1 - ub) * (q.2 - vb)).sum = T * ((N : Int) - 1)) : T.natAbs ≤ 2 ^ 32 := by
  have k := sum_abs_le (l := (us.zip vs).map fun q => (q.1 - ub) * (q.2 - vb)) (B := 1536 * 2 ^ 16) (N := N) (by simp; omega) (by
    intro w hw
    obtain ⟨q, hq, rfl⟩ := List.mem_map.mp hw
    obtain ⟨m1, m2⟩ := zip_mem hq
    have := h1 _ m1; have := h3 _ m2
    rw [Int.natAbs_mul]
    exact Nat.mul_le_mul (by omega) (by omega))
  rw [hT, Int.natAbs_mul] at k
  have h4 : 1 ≤ ((N : Int) - 1).natAbs := by omega
  have h5 : T.natAbs * 1 ≤ T.natAbs * ((N : Int) - 1).natAbs := Nat.mul_le_mul_left _ h4
  have h6 : N * (1536 * 2 ^ 16) ≤ 24 * (1536 * 2 ^ 16) := Nat.mul_le_mul_right _ hN
  omega
def Tq (q : Nat → List Nat) (n a b : Nat) : Int := dot (kt n a b) (sq q)
theorem mark_le (a b : Int) (p : List (List Int)) : (markV a b p).natAbs ≤ 230 := by unfold markV; split <;> decide
section
variable {c : Cx} {A : Around}
theorem vbm_bd (n : Nat) : (vbm n).natAbs ≤ 1000 := by unfold vbm; split; decide; split <;> decide
theorem nxs_marks (n a b : Nat) : (((nxs n).map (markV a b)).map fun v => 16 * v) = (ordV n).map (vm n a b) := by
  unfold nxs
  rw [List.map_map, List.map_map]
  rfl
theorem col_T {q : Nat → List Nat} (hq : QOk q) {n : Nat} (h2 : 2 ≤ n) (hn : n ≤ 4) {a b : Nat} (ha : a < n) (hb : b < n) (hne : a ≠ b) :
    (((usq q n).zip (((nxs n).map (markV a b)).map fun v => 16 * v)).map fun p => (p.1 - uS (Aq q n) (sq q) n) * (p.2 - vbm n)).sum = Tq q n a b * (((ordV n).length : Int) - 1) := by
  rw [nxs_marks]
  exact lin_cov (ln_is q hq.ne (by omega) hn) ((okN_of h2 hn).m1 a ha b hb hne)
theorem Tq_bd {q : Nat → List Nat} (hq : QOk q) {n : Nat} (h2 : 2 ≤ n) (hn : n ≤ 4) {a b : Nat} (ha : a < n) (hb : b < n) : (Tq q n a b).natAbs ≤ 2 ^ 32 := by
  by_cases hne : a = b
  · have : Tq q n a b = 0 := by
      unfold Tq
      rw [show kt n a b = fun _ => 0 from by funext i; unfold kt; rw [if_pos hne]]
      exact dot_zero _
    rw [this]; decide
  · have hl := (ord_len n (by omega)).1
    refine T_bd hl (ord_big n (by omega) h2) (by simp [usq]) (usq_bd hq hn) ?_ (ub_bd hq h2 hn) (by have := vbm_bd n; omega) (col_T hq h2 hn ha hb hne)
    intro v hv
    obtain ⟨w, hw, rfl⟩ := List.mem_map.mp hv
    obtain ⟨p, _, rfl⟩ := List.mem_map.mp hw
    have := mark_le a b p
    omega
theorem col_ok (O : c.Ok) (hA : Rm A 6) {q : Nat → List Nat} (hq : QOk q) {n : Nat} (h2 : 2 ≤ n) (hn : n ≤ 4) {a b : Nat} (ha : a < n) (hb : b < n) (hne : a ≠ b) :
    Fn c A (.ref 126) [.list (szs q n), .list ((nxs n).map LLI'), .int a, .int b] (.flt (colB (szs q n) (nxs n) a b)) ∧ Fx (colB (szs q n) (nxs n) a b) (Tq q n a b) := by
  have hl := (ord_len n (by omega)).1
  refine fn_column O hA (n := (ordV n).length) (by simp [szs]) (by simp [nxs]) (ord_big n (by omega) h2) hl (szs_ok hq hn) (usq_sum hq h2 hn) ?_ (fun u hu => by have := usq_bd hq hn u hu; omega) (by have := ub_bd hq h2 hn; omega) (by have := vbm_bd n; omega) (col_T hq h2 hn ha hb hne) (by have := Tq_bd hq h2 hn ha hb; omega)
  rw [nxs_marks]
  exact (okN_of h2 hn).m2 a ha b hb hne
noncomputable def toldD (q : Nat → List Nat) (n a b : Nat) : D := if a = b then .int 0 else .flt (colB (szs q n) (nxs n) a b)
theorem told_nm (O : c.Ok) (hA : Rm A 6) {q : Nat → List Nat} (hq : QOk q) {n : Nat} (h2 : 2 ≤ n) (hn : n ≤ 4) {a b : Nat} (ha : a < n) (hb : b < n) : Nm (toldD q n a b) (Tq q n a b) := by
  by_cases hne : a = b
  · have h0 : Tq q n a b = 0 * 2 ^ 8 := by
      unfold Tq
      rw [show kt n a b = fun _ => 0 from by funext i; unfold kt; rw [if_pos hne]]
      rw [dot_zero]; rfl
    unfold toldD
    rw [h0, if_pos hne]
    exact .int (by decide)
  · unfold toldD
    rw [if_neg hne]
    exact .flt (col_ok O hA hq h2 hn ha hb hne).2
noncomputable def toldR (q : Nat → List Nat) (n a : Nat) : List D := (List.range n).map fun b => toldD q n a b
noncomputable def toldL (q : Nat → List Nat) (n : Nat) : D := .list ((List.range n).map fun a => .list (toldR q n a))
noncomputable def rb5 (q : Nat → List Nat) (n : Nat) : Rho := (Str.ofString "told", toldL q n) :: rb4 q n
set_option maxHeartbeats 1000000 in
theorem rb_told (O : c.Ok) {L : Addr} (hR : Rm A 6) {q : Nat → List Nat} (hq : QOk q) {n : Nat} (h2 : 2 ≤ n) (hn : n ≤ 4) {oc : Oc}
    (h : Ex c (fun _ => False) A (callEnvC (fdAt 131) L 131) (rb5 q n) (execs (rbBody.drop 8) (callEnvC (fdAt 131) L 131)) oc) : Ex c (fun _ => False) A (callEnvC (fdAt 131) L 131) (rb4 q n) (execs (rbBody.drop 7) (callEnvC (fdAt 131) L 131)) oc := by
  have hsl := bigZ
  have ok : EnvOk (callEnvC (fdAt 131) L 131) := callEnv_ok rfl rfl rfl
  refine ex_next (ρ' := rb5 q n) (ex_Assign O rfl (.inr ⟨rfl, rfl⟩) (ev_ListComp (ds := (List.range n).map fun (a : Nat) => D.int a) (es := (List.range n).map fun a => .list (toldR q n a)) O hR.hd rfl rfl (by decide +kernel) (.inr rfl) (by decide +kernel) (it_range1 O ok rfl rfl (bi_range O) (ev_Name rfl rfl rfl rfl) (by omega)) (by simp) ?_ (by simp; omega)) rfl) h
  intro c' C O' h1 h2' h3 h4 h5 i d e hd he
  obtain ⟨a, _, rfl, rfl, ha⟩ := list_get2 hd he
  have ha' := List.mem_range.mp ha
  refine ev_ListComp (ds := (List.range n).map fun (b : Nat) => D.int b) (es := toldR q n a) O' hR.hd rfl rfl (by decide +kernel) (.inl rfl) (by decide +kernel) (it_range1 O' ⟨rfl, rfl, rfl⟩ rfl rfl (bi_range O') (ev_Name rfl rfl rfl rfl) (by omega)) (by simp [toldR]) ?_ (by simp [toldR]; omega)
  intro c'' C' O'' _ _ _ _ _ j d e hd he
  unfold toldR at he
  obtain ⟨b, _, rfl, rfl, hb⟩ := list_get2 hd he
  have hb' := List.mem_range.mp hb
  refine (ev_IfExp (tv := decide (a = b)) (d₁ := .int 0) (d₂ := .flt (colB (szs q n) (nxs n) a b)) ((tv_Compare (ev_Name rfl rfl rfl rfl) (ev_Name rfl rfl rfl rfl) cmp_eq_int rfl).cast (by by_cases e : a = b <;> simp [e]; omega)) (fun _ => ev_int) (fun hne => ?_)).cast ?_
  · have hne' : a ≠ b := by simpa using hne
    exact ev_call O'' ⟨rfl, rfl, rfl⟩ rfl rfl (mg_is O'' rfl) (O''.K 126 _ rfl) rfl (evl_cons (ev_Name rfl rfl rfl rfl) (evl_cons (ev_Name rfl rfl rfl rfl) (evl_cons (ev_Name rfl rfl rfl rfl) (evl_cons (ev_Name rfl rfl rfl rfl) evl_nil)))) (col_ok O'' hR hq h2 hn ha' hb' hne').1
  · unfold toldD
    by_cases e : a = b <;> simp [e]
end
end Mine
end
/-! RB6 -/
section
open PySem PySem.W PyProof.Rows
set_option linter.unusedVariables false
set_option maxRecDepth 10000
namespace Mine
open PySem.Float64
noncomputable def wholeB (q : Nat → List Nat) (n : Nat) : UInt64 := Float64.mul (ofInt (-rateV n)) (Float64.add (ofInt (3 * Aq q n)) (Float64.mul (ofInt 4) (barB (szs q n))))
noncomputable def rowS (q : Nat → List Nat) (n a : Nat) : D := sumD (toldR q n a)
noncomputable def colL (q : Nat → List Nat) (n b : Nat) : List D := (List.range n).map fun a => toldD q n a b
noncomputable def colS (q : Nat → List Nat) (n b : Nat) : D := sumD (colL q n b)
noncomputable def inX (q : Nat → List Nat) (n a b : Nat) : D := addD (addD (toldD q n a b) (rowS q n a)) (colS q n b)
noncomputable def leftB (q : Nat → List Nat) (n a b : Nat) : UInt64 := Float64.sub (wholeB q n) (numF (mulI 4 (inX q n a b)))
noncomputable def leftL (q : Nat → List Nat) (n : Nat) : D := .list ((List.range n).map fun a => .list ((List.range n).map fun b => .flt (leftB q n a b)))
noncomputable def rb6 (q : Nat → List Nat) (n : Nat) : Rho := (Str.ofString "left", leftL q n) :: (Str.ofString "whole", .flt (wholeB q n)) :: (Str.ofString "rate", .int (rateV n)) :: (Str.ofString "average", .flt (barB (szs q n))) :: rb5 q n
theorem rate_bd (n : Nat) : (rateV n).natAbs ≤ 345 := by unfold rateV; split; decide; split <;> decide
theorem Lq_bd {q : Nat → List Nat} (hq : QOk q) {k : Nat} (hk : k < 4) : (Lq q k).natAbs ≤ 16 ∧ 0 ≤ Lq q k := by
  have h1 := sent_len (q k)
  have h2 := hq.le k hk
  unfold Lq
  omega
theorem Aq_bd {q : Nat → List Nat} (hq : QOk q) {n : Nat} (hn : n ≤ 4) : (Aq q n).natAbs ≤ 64 := by
  have := sum_abs_le (l := (List.range n).map (Lq q)) (B := 16) (N := 4) (by simpa using hn) (by
    intro u hu
    obtain ⟨k, hk, rfl⟩ := List.mem_map.mp hu
    have := List.mem_range.mp hk
    exact (Lq_bd hq (by omega)).1)
  exact this
theorem avg_ok {q : Nat → List Nat} (hq : QOk q) {n : Nat} (h2 : 2 ≤ n) (hn : n ≤ 4) : Fx (barB (szs q n)) (16 * uS (Aq q n) (sq q) n) ∧ absSum (x16 (usq q n)) < 2 ^ 53 := by
  have hl := (ord_len n (by omega)).1
  exact bar_ok (n := (ordV n).length) (by simp [szs]) (by have := ord_big n (by omega) h2; omega) hl (szs_ok hq hn) (usq_sum hq h2 hn) (fun u hu => by have := usq_bd hq hn u hu; omega) (by have := ub_bd hq h2 hn; omega)
theorem mul_bd {a b : Int} {A B : Nat} (h1 : a.natAbs ≤ A) (h2 : b.natAbs ≤ B) : (a * b).natAbs ≤ A * B := by rw [Int.natAbs_mul]; exact Nat.mul_le_mul h1 h2
theorem wk_bd {q : Nat → List Nat} (hq : QOk q) {n : Nat} (h2 : 2 ≤ n) (hn : n ≤ 4) : (dot (wk n) (sq q)).natAbs ≤ 2 ^ 30 := by
  rw [lin_wk n (Aq q n) (sq q)]
  have h1 := Aq_bd hq hn
  have h3 := ub_bd hq h2 hn
  have h4 := rate_bd n
  have := mul_bd (a := -rateV n) (b := 3 * Aq q n * 256 + 4 * (16 * uS (Aq q n) (sq q) n)) (A := 345) (B := 100000) (by omega) (by omega)
  omega
theorem whole_ok {q : Nat → List Nat} (hq : QOk q) {n : Nat} (h2 : 2 ≤ n) (hn : n ≤ 4) : Fx (wholeB q n) (dot (wk n) (sq q)) := by
  have hA := Aq_bd hq hn
  have hU := ub_bd hq h2 hn
  have hr := rate_bd n
  have hw := wk_bd hq h2 hn
  have f1 := (avg_ok hq h2 hn).1
  have f2 := fx_ofInt (i := 4) (by decide)
  have f3 := fx_mul (c := 4 * (16 * uS (Aq q n) (sq q) n)) f2 f1 (by omega) (by omega)
  have f4 := fx_ofInt (i := 3 * Aq q n) (by omega)
  have f5 := fx_add f4 f3 (by omega)
  have f6 := fx_ofInt (i := -rateV n) (by omega)
  unfold wholeB
  rw [lin_wk n (Aq q n) (sq q)] at hw ⊢
  refine fx_mul f6 f5 ?_ (by omega)
  show -rateV n * 256 * (3 * Aq q n * 256 + 4 * (16 * uS (Aq q n) (sq q) n)) = -rateV n * (3 * Aq q n * 256 + 4 * (16 * uS (Aq q n) (sq q) n)) * 256
  rw [Int.mul_assoc, Int.mul_comm 256, ← Int.mul_assoc]
section
variable {c : Cx} {A : Around}
theorem op_sub_fD {w : UInt64} {d : D} {n : Int} (hd : Nm d n) : Op2 c A (binaryOp .Sub) (.flt w) d (.flt (Float64.sub w (numF d))) := by
  cases hd with
  | flt h => exact op_sub_ff
  | int h =>
    refine ⟨fun s v₁ v₂ Q E g r₁ r₂ hQ => ?_⟩
    obtain ⟨t, rfl⟩ := rp_flt.mp r₁; obtain ⟨u, rfl⟩ := rp_int.mp r₂
    exact sub_fi_fits (lim40 h) (hQ _ _ g.tok (KK.refl _) (rp_flt.mpr ⟨_, rfl⟩))
theorem row_nms (O : c.Ok) (hA : Rm A 6) {q : Nat → List Nat} (hq : QOk q) {n : Nat} (h2 : 2 ≤ n) (hn : n ≤ 4) {a : Nat} (ha : a < n) : Nms (toldR q n a) ((List.range n).map fun b => Tq q n a b) ∧ absSum ((List.range n).map fun b => Tq q n a b) ≤ 4 * 2 ^ 32 := by
  have e : toldR q n a = (List.range n).map fun b => toldD q n a b := rfl
  rw [e]
  refine ⟨nms_map (fun b => toldD q n a b) (fun b => Tq q n a b) (List.range n) fun b hb => told_nm O hA hq h2 hn ha (List.mem_range.mp hb), ?_⟩
  have := absSum_le ((List.range n).map fun b => Tq q n a b) (2 ^ 32) (by
    intro u hu
    obtain ⟨b, hb, rfl⟩ := List.mem_map.mp hu
    exact Tq_bd hq h2 hn ha (List.mem_range.mp hb))
  simp only [List.length_map, List.length_range] at this
  have h4 : n * 2 ^ 32 ≤ 4 * 2 ^ 32 := Nat.mul_le_mul_right _ hn
  exact Nat.le_trans this h4
theorem col_nms (O : c.Ok) (hA : Rm A 6) {q : Nat → List Nat} (hq : QOk q) {n : Nat} (h2 : 2 ≤ n) (hn : n ≤ 4) {b : Nat} (hb : b < n) : Nms (colL q n b) ((List.range n).map fun a => Tq q n a b) ∧ absSum ((List.range n).map fun a => Tq q n a b) ≤ 4 * 2 ^ 32 := by
  have e : colL q n b = (List.range n).map fun a => toldD q n a b := rfl
  rw [e]
  refine ⟨nms_map (fun a => toldD q n a b) (fun a => Tq q n a b) (List.range n) fun a ha => told_nm O hA hq h2 hn (List.mem_range.mp ha) hb, ?_⟩
  have := absSum_le ((List.range n).map fun a => Tq q n a b) (2 ^ 32) (by
    intro u hu
    obtain ⟨a, ha, rfl⟩ := List.mem_map.mp hu
    exact Tq_bd hq h2 hn (List.mem_range.mp ha) hb)
  simp only [List.length_map, List.length_range] at this
  have h4 : n * 2 ^ 32 ≤ 4 * 2 ^ 32 := Nat.mul_le_mul_right _ hn
  exact Nat.le_trans this h4
theorem left_ok (O : c.Ok) (hA : Rm A 6) {q : Nat → List Nat} (hq : QOk q) {n : Nat} (h2 : 2 ≤ n) (hn : n ≤ 4) {a b : Nat} (ha : a < n) (hb : b < n) :
    Nm (rowS q n a) ((List.range n).map fun b => Tq q n a b).sum ∧ Nm (colS q n b) ((List.range n).map fun a => Tq q n a b).sum ∧
    Nm (addD (toldD q n a b) (rowS q n a)) (Tq q n a b + ((List.range n).map fun b => Tq q n a b).sum) ∧ (∃ m, Nm (inX q n a b) m ∧ m.natAbs ≤ 2 ^ 36) ∧ Nm (mulI 4 (inX q n a b)) (4 * (Tq q n a b + ((List.range n).map fun b => Tq q n a b).sum + ((List.range n).map fun a => Tq q n a b).sum)) ∧
    Fx (leftB q n a b) (dot (lk n a b) (sq q)) ∧ (dot (lk n a b) (sq q)).natAbs ≤ 2 ^ 39 := by
  obtain ⟨r1, r2⟩ := row_nms (c := c) (A := A) O hA hq h2 hn ha
  obtain ⟨c1, c2⟩ := col_nms (c := c) (A := A) O hA hq h2 hn hb
  have R := (fn_sum_num (c := c) (A := A) O hA.hd r1 (by omega)).2
  have C := (fn_sum_num (c := c) (A := A) O hA.hd c1 (by omega)).2
  have hT := told_nm O hA hq h2 hn ha hb
  have bT := Tq_bd hq h2 hn ha hb
  have bR := sum_le_abs ((List.range n).map fun b => Tq q n a b)
  have bC := sum_le_abs ((List.range n).map fun a => Tq q n a b)
  have hw := wk_bd hq h2 hn
  have X1 := addD_ok hT R (by omega)
  have X2 := addD_ok X1 C (by omega)
  have X3 := mulI_ok (a := 4) (by decide) X2 (by omega)
  have e : dot (lk n a b) (sq q) = dot (wk n) (sq q) - 4 * (Tq q n a b + ((List.range n).map fun b => Tq q n a b).sum + ((List.range n).map fun a => Tq q n a b).sum) := lin_left n a b (sq q)
  refine ⟨R, C, X1, ⟨_, X2, by omega⟩, X3, ?_, by rw [e]; omega⟩
  rw [e]
  exact fx_sub (whole_ok hq h2 hn) X3.fx (by omega)
end
end Mine
end
/-! RB7 -/
section
open PySem PySem.W PyProof.Rows
set_option linter.unusedVariables false
set_option maxRecDepth 10000
namespace Mine
open PySem.Float64
section
variable {c : Cx} {A : Around}
theorem Lq_list (q : Nat → List Nat) {n : Nat} (hn : n ≤ 4) : ((List.range 4).map fun k => tx (sentGo none (q k))).take n = (List.range n).map fun k => tx (sentGo none (q k)) := by
  rw [← List.map_take]
  congr 1
  rw [List.take_range, Nat.min_eq_left hn]
theorem rate_get {n : Nat} (h2 : 2 ≤ n) (hn : n ≤ 4) : ([D.int 345, .int 69, .int 30])[((n : Int) - 2).toNat]? = some (.int (rateV n)) := by
  have : n = 2 ∨ n = 3 ∨ n = 4 := by omega
  rcases this with rfl | rfl | rfl <;> rfl
set_option maxHeartbeats 2000000 in
theorem rb_avg (O : c.Ok) {L : Addr} (hR : Rm A 6) {q : Nat → List Nat} (hq : QOk q) {n : Nat} (h2 : 2 ≤ n) (hn : n ≤ 4) {oc : Oc}
    (h : Ex c (fun _ => False) A (callEnvC (fdAt 131) L 131) (rb6 q n) (execs (rbBody.drop 13) (callEnvC (fdAt 131) L 131)) oc) : Ex c (fun _ => False) A (callEnvC (fdAt 131) L 131) (rb5 q n) (execs (rbBody.drop 8) (callEnvC (fdAt 131) L 131)) oc := by
  have hsl := bigZ
  have ok : EnvOk (callEnvC (fdAt 131) L 131) := callEnv_ok rfl rfl rfl
  have hl := (ord_len n (by omega)).1
  have hbig := ord_big n (by omega) h2
  have hA := Aq_bd hq hn
  have hsz : (szs q n).length = (ordV n).length := by simp [szs]
  obtain ⟨fav, bav⟩ := avg_ok hq h2 hn
  refine ex_next (ρ' := (Str.ofString "average", .flt (barB (szs q n))) :: rb5 q n) (ex_Assign O rfl (.inl rfl) (ev_call O ok rfl rfl (mg_is O rfl) (O.K 73 _ rfl) rfl (evl_cons (ev_Name rfl rfl rfl rfl) evl_nil) (fn_fmean O (hR.le (by omega)) (by omega) (by omega) (szs_ok hq hn) bav)) rfl) ?_
  refine ex_next (ex_If (tv := false) ((tv_Not (tv_val (ev_isfloat O ok rfl rfl (ev_Name rfl rfl rfl rfl)) rfl)).cast rfl) nofun (fun _ => ex_nil)) ?_
  refine ex_next (ρ' := (Str.ofString "rate", .int (rateV n)) :: (Str.ofString "average", .flt (barB (szs q n))) :: rb5 q n) (ex_Assign O rfl (.inl rfl) (ev_item (ev_List (evl_cons ev_int (evl_cons ev_int (evl_cons ev_int evl_nil)))) (ev_BinOp (ev_Name rfl rfl rfl rfl) ev_int op_sub_int) (by omega) (by omega) (rate_get h2 hn)) rfl) ?_
  have hsum : Fn c A (.builtin "sum") [.list (((List.range n).map (Lq q)).map .int)] (.int (Aq q n)) := fn_sum_ints hR.hd
  have hr := rate_bd n
  refine ex_next (ρ' := (Str.ofString "whole", .flt (wholeB q n)) :: (Str.ofString "rate", .int (rateV n)) :: (Str.ofString "average", .flt (barB (szs q n))) :: rb5 q n) (ex_Assign O rfl (.inr ⟨rfl, rfl⟩) (ev_BinOp (ev_UnaryOp (ev_Name rfl rfl rfl rfl) op_neg_int) (ev_BinOp (ev_BinOp ev_int (ev_callB O ok rfl rfl (.inr ⟨mg_sum O, mb_of O (by decide) rfl⟩) (evl_cons (ev_ListComp (ds := (List.range n).map fun k => tx (sentGo none (q k))) (es := ((List.range n).map (Lq q)).map .int) O hR.hd rfl rfl (by decide +kernel) (.inl rfl) (by decide +kernel) (it_list ((ev_sliceL (lo := none) (hi := some (n : Int)) (k := none) (ev_Name rfl rfl rfl rfl) evp_none (evp_some (ev_Name rfl rfl rfl rfl)) evp_none (by simp) (by simp; omega)).cast (by rw [sliceL_upto, Lq_list q hn]))) (by simp) ?_ (by simp; omega)) evl_nil) hsum) (op_mul_int (.of_left (by decide)))) (ev_BinOp ev_int (ev_Name rfl rfl rfl rfl) (op_mul_if (lim40 (by decide)))) (op_add_if (lim40 (by omega)))) (op_mul_if (lim40 (by omega)))) rfl) ?_
  · intro c' C O' h1 h2' h3 h4 h5 i d e hd he
    rw [List.map_map] at he
    obtain ⟨k, _, rfl, rfl, hk⟩ := list_get2 hd he
    have hk' := List.mem_range.mp hk
    have hlen : (sentGo none (q k)).length ≤ 16 := by have := sent_len (q k); have := hq.le k (by omega); omega
    exact (ev_callB O' ⟨rfl, rfl, rfl⟩ rfl rfl (.inr (bi_len O')) (evl_cons (ev_Name rfl rfl rfl rfl) evl_nil) (fn_len_str (x := ⟨(sentGo none (q k)).toArray⟩) (by rw [tx_len]; omega))).cast (by rw [tx_len]; rfl)
  refine ex_next (ρ' := rb6 q n) (ex_AssignComp (ds := (List.range n).map fun (a : Nat) => D.int a) (es := (List.range n).map fun a => .list ((List.range n).map fun b => .flt (leftB q n a b))) O hR.hd rfl (.inl rfl) rfl rfl rfl (by decide +kernel) (.inr rfl) (by decide +kernel) (it_range1 O ok rfl rfl (bi_range O) (ev_Name rfl rfl rfl rfl) (by omega)) (by simp) ?_ (by simp; omega)) h
  intro c' C O' h1 h2' h3 h4 h5 i d e hd he
  obtain ⟨a, _, rfl, rfl, ha⟩ := list_get2 hd he
  have ha' := List.mem_range.mp ha
  refine ev_ListComp (ds := (List.range n).map fun (b : Nat) => D.int b) (es := (List.range n).map fun b => .flt (leftB q n a b)) O' hR.hd rfl rfl (by decide +kernel) (.inr rfl) (by decide +kernel) (it_range1 O' ⟨rfl, rfl, rfl⟩ rfl rfl (bi_range O') (ev_Name rfl rfl rfl rfl) (by omega)) (by simp) ?_ (by simp; omega)
  intro c'' C' O'' _ _ _ _ _ j d e hd he
  obtain ⟨b, _, rfl, rfl, hb⟩ := list_get2 hd he
  have hb' := List.mem_range.mp hb
  obtain ⟨R, Cs, X1, ⟨m, X2, _⟩, X3, _⟩ := left_ok O hR hq h2 hn ha' hb'
  have T := told_nm O hR hq h2 hn ha' hb'
  have hrow : ((List.range n).map fun a => D.list (toldR q n a))[((a : Nat) : Int).toNat]? = some (.list (toldR q n a)) := by
    rw [Int.toNat_natCast, List.getElem?_map, List.getElem?_range ha']; rfl
  have hcell : (toldR q n a)[((b : Nat) : Int).toNat]? = some (toldD q n a b) := by
    unfold toldR
    rw [Int.toNat_natCast, List.getElem?_map, List.getElem?_range hb']; rfl
  have f1 := (fn_sum_num (c := c'') (A := A) O'' hR.hd (row_nms O hR hq h2 hn ha').1 (by have := (row_nms O hR hq h2 hn ha').2; omega)).1
  have f2 := (fn_sum_num (c := c'') (A := A) O'' hR.hd (col_nms O hR hq h2 hn hb').1 (by have := (col_nms O hR hq h2 hn hb').2; omega)).1
  refine ev_BinOp (ev_Name rfl rfl rfl rfl) (ev_BinOp ev_int (ev_BinOp (ev_BinOp (ev_item (ev_item (ev_Name rfl rfl rfl rfl) (ev_Name rfl rfl rfl rfl) (by omega) (by omega) hrow) (ev_Name rfl rfl rfl rfl) (by omega) (by omega) hcell)
    (ev_callB O'' ⟨rfl, rfl, rfl⟩ rfl rfl (.inr ⟨mg_sum O'', mb_of O'' (by decide) rfl⟩) (evl_cons (ev_item (ev_Name rfl rfl rfl rfl) (ev_Name rfl rfl rfl rfl) (by omega) (by omega) hrow) evl_nil) f1) (op_addD T R))
    (ev_callB O'' ⟨rfl, rfl, rfl⟩ rfl rfl (.inr ⟨mg_sum O'', mb_of O'' (by decide) rfl⟩) (evl_cons (ev_ListComp (ds := (List.range n).map fun a => D.list (toldR q n a)) (es := colL q n b) O'' hR.hd rfl rfl (by decide +kernel) (.inl rfl) (by decide +kernel) (it_list (ev_Name rfl rfl rfl rfl)) (by simp [colL]) ?_ (by simp [colL]; omega)) evl_nil) f2) (op_addD X1 Cs)) (op_mulI (by decide) X2 (fun _ _ => .of_left (by decide)))) (op_sub_fD X3)
  intro c3 C3 O3 _ _ _ _ _ i d e hd he
  unfold colL at he
  obtain ⟨a', _, rfl, rfl, ha3⟩ := list_get2 hd he
  have hcell' : (toldR q n a')[((b : Nat) : Int).toNat]? = some (toldD q n a' b) := by
    unfold toldR
    rw [Int.toNat_natCast, List.getElem?_map, List.getElem?_range hb']; rfl
  exact ev_item (ev_Name rfl rfl rfl rfl) (ev_Name rfl rfl rfl rfl) (by omega) (by omega) hcell'
end
end Mine
end
/-! RB8 -/
section
open PySem PySem.W PyProof.Rows
set_option linter.unusedVariables false
set_option maxRecDepth 10000
namespace Mine
open PySem.Float64
theorem mulOkL {a b : Int} (h : a.natAbs < 2 ^ 60) : IntMulOk a b := .of_left (intBits_le_64 (by omega) (by omega))
theorem mulOkR {a b : Int} (h : b.natAbs < 2 ^ 60) : IntMulOk a b := .of_right (intBits_le_64 (by omega) (by omega))
theorem seamI_bd (q : Nat → List Nat) (a b : Nat) : 0 ≤ seamI q a b ∧ seamI q a b ≤ 2 := by
  unfold seamI
  split
  · omega
  · unfold sm
    have := seamV_nonneg ((q a).getLastD 0) ((q b).headD 0)
    omega
theorem seam_sq (q : Nat → List Nat) {a b : Nat} (hb : b < 4) (hne : a ≠ b) : sq q (4 * a + b) = seamI q a b := by
  unfold sq seamI
  rw [if_neg hne, show (4 * a + b) / 4 = a by omega, show (4 * a + b) % 4 = b by omega]
noncomputable def plD (n a : Nat) : List D := ((ordV n).map fun o => 345 * (o.idxOf (a : Int) : Int)).map .int
noncomputable def dropV (q : Nat → List Nat) (n a b : Nat) : Int := -3 * rateV n * ((n : Int) * n - 1) * seamI q a b
noncomputable def moreV (q : Nat → List Nat) (n a : Nat) : Int := ((List.range n).map fun b => seamI q a b).sum - ((List.range n).map fun b => seamI q b a).sum
section
variable {c : Cx} {A : Around}
theorem back_num (O : c.Ok) (hA : Rm A 6) {q : Nat → List Nat} (hq : QOk q) {n : Nat} (h2 : 2 ≤ n) (hn : n ≤ 4) {a b : Nat} (ha : a < n) (hb : b < n) (hne : a ≠ b) :
    (cmpInt (Float64.add (Float64.mul (ofInt n) (leftB q n a b)) (leftB q n b a)) (dropV q n a b) != some Ordering.eq) = false := by
  obtain ⟨_, _, _, _, _, f1, b1⟩ := left_ok (c := c) (A := A) O hA hq h2 hn ha hb
  obtain ⟨_, _, _, _, _, f2, b2⟩ := left_ok (c := c) (A := A) O hA hq h2 hn hb ha
  have hm : ((n : Int) * dot (lk n a b) (sq q)).natAbs ≤ 4 * 2 ^ 39 := mul_bd (by omega) b1
  have fn := fx_ofInt (i := (n : Int)) (by omega)
  have g1 := fx_mul (c := (n : Int) * dot (lk n a b) (sq q)) fn f1 (by show (n : Int) * 256 * _ = _ * 256; rw [Int.mul_assoc, Int.mul_comm 256, ← Int.mul_assoc]) (by omega)
  have g2 := fx_add g1 f2 (by omega)
  rw [fx_cmpInt g2, lin_back (okN_of h2 hn) hn ha hb hne (sq q), seam_sq q (by omega) hne]
  simp only [decide_eq_false_iff_not, ne_eq, Decidable.not_not]
  unfold dropV
  show -3 * rateV n * ((n : Int) * n - 1) * 256 * seamI q a b = -3 * rateV n * ((n : Int) * n - 1) * seamI q a b * 256
  rw [Int.mul_assoc, Int.mul_comm 256, ← Int.mul_assoc]
theorem place_cov (O : c.Ok) (hA : Rm A 6) {q : Nat → List Nat} (hq : QOk q) {n : Nat} (h2 : 2 ≤ n) (hn : n ≤ 4) {a : Nat} (ha : a < n) :
    Fn c A (.ref 80) [.list (szs q n), .list (plD n a)] (.flt (covB (szs q n) (plD n a))) ∧ (cmpInt (Float64.mul (ofInt 8) (covB (szs q n) (plD n a))) (-3 * rateV n * ((n : Int) - 1) * moreV q n a) != some Ordering.eq) = false := by
  have hl := (ord_len n (by omega)).1
  have facts := ord_facts n (by omega)
  have hidx : ∀ o ∈ ordV n, ∀ x : Int, (345 * (o.idxOf x : Int)).natAbs ≤ 345 * 4 := by
    intro o ho x
    have h1 := (facts o ho).1
    have := List.idxOf_le_length (a := x) (l := o)
    omega
  have he : Nms (plD n a) (x16 ((ordV n).map (vp a))) := by
    have := nms_ints ((ordV n).map fun o => 345 * (o.idxOf (a : Int) : Int)) (by
      intro v hv
      obtain ⟨o, ho, rfl⟩ := List.mem_map.mp hv
      have := hidx o ho a
      omega)
    have e : (ordV n).map (vp a) = ((ordV n).map fun o => 345 * (o.idxOf (a : Int) : Int)).map fun v => 16 * v := by rw [List.map_map]; rfl
    rw [e]
    exact this
  have hvb : ∀ v ∈ (ordV n).map (vp a), v.natAbs ≤ 2 ^ 15 := by
    intro v hv
    obtain ⟨o, ho, rfl⟩ := List.mem_map.mp hv
    have := hidx o ho a
    unfold vp
    omega
  have hpb : (vbp n).natAbs ≤ 2 ^ 15 := by unfold vbp; omega
  have k := okN_of h2 hn
  have hT := lin_cov (v := vp a) (vb := vbp n) (ln_is q hq.ne (by omega) hn) (k.p1 a ha)
  have bT := T_bd (us := usq q n) (T := dot (kp n a) (sq q)) hl (ord_big n (by omega) h2) (by simp [usq]) (usq_bd hq hn) hvb (ub_bd hq h2 hn) hpb hT
  have cv := cov_ok (c := c) (A := A) O (hA.le (by omega)) (n := (ordV n).length) (ds := szs q n) (es := plD n a) (T := dot (kp n a) (sq q)) (by simp [szs]) (by simp [plD]) (ord_big n (by omega) h2) hl (szs_ok hq hn) he (usq_sum hq h2 hn) (k.p2 a ha) (fun u hu => by have := usq_bd hq hn u hu; omega) (fun u hu => by have := hvb u hu; omega) (by have := ub_bd hq h2 hn; omega) (by omega) hT (by omega)
  refine ⟨cv.1, ?_⟩
  have f8 := fx_ofInt (i := 8) (by decide)
  have g1 := fx_mul (c := 8 * dot (kp n a) (sq q)) f8 cv.2 (by omega) (by omega)
  rw [fx_cmpInt g1, lin_place k hn ha (sq q)]
  simp only [decide_eq_false_iff_not, ne_eq, Decidable.not_not]
  have e1 : ((List.range n).map fun b => if a = b then 0 else sq q (4 * a + b)).sum = ((List.range n).map fun b => seamI q a b).sum := sum_congr' fun b hb => by
    have := List.mem_range.mp hb
    by_cases e : a = b
    · rw [if_pos e]; unfold seamI; rw [if_pos e]
    · rw [if_neg e, seam_sq q (by omega) e]
  have e2 : ((List.range n).map fun b => if b = a then 0 else sq q (4 * b + a)).sum = ((List.range n).map fun b => seamI q b a).sum := sum_congr' fun b hb => by
    have := List.mem_range.mp hb
    by_cases e : b = a
    · rw [if_pos e]; unfold seamI; rw [if_pos e]
    · rw [if_neg e, seam_sq q (by omega) e]
  rw [e1, e2]
  unfold moreV
  show -3 * rateV n * ((n : Int) - 1) * 256 * _ = -3 * rateV n * ((n : Int) - 1) * _ * 256
  rw [Int.mul_assoc, Int.mul_comm 256, ← Int.mul_assoc]
theorem ev_index {env : Env} {ρ : Rho} {o e : Expr} {apos pos : Pos} {ns : List Int} {k : Int} (hb : attributeBase o (Str.ofString "index") env (eval o env) = eval o env) (hl : (apos.endLine == pos.line) = true) (he : notStar e = true)
    (h₁ : Ev c A env ρ (eval o env) (.list (ns.map .int))) (h₂ : Ev c A env ρ (eval e env) (.int k)) (hk : k ∈ ns) (hlay : PyData.layable0 (.list (ns.map .int)) = true) : Ev c A env ρ (eval (.Call (.Attribute o (Str.ofString "index") apos) [e] [] pos) env) (.int (ns.idxOf k : Nat)) :=
  ev_meth hb hl he PySem.F.plainAttrs_list PySem.F.slot_list_index PySem.F.type_list_index h₁ (fun s v r => ⟨rp_typeL r, fun a e => by
    obtain ⟨a', items, rfl, _, ⟨n, ho⟩, _⟩ := rp_list.mp r
    cases e
    exact ⟨_, ho, rfl⟩⟩) h₂ (fn_index hk hlay)
end
end Mine
end
/-! RB9 -/
section
open PySem PySem.W PyProof.Rows
set_option linter.unusedVariables false
set_option maxRecDepth 10000
namespace Mine
open PySem.Float64
theorem ord_lay : ∀ n, n < 5 → ∀ o ∈ ordV n, PyData.layable0 (.list (o.map .int)) = true := by decide +kernel
theorem ord_has : ∀ n, n < 5 → ∀ o ∈ ordV n, ∀ a, a < n → (a : Int) ∈ o := by decide +kernel
theorem row_take (q : Nat → List Nat) (a : Nat) {n : Nat} (hn : n ≤ 4) : (rowI q a).take n = (List.range n).map fun b => seamI q a b := by
  unfold rowI
  rw [← List.map_take, List.take_range, Nat.min_eq_left hn]
theorem seamsum_bd (f : Nat → Int) (h : ∀ b, 0 ≤ f b ∧ f b ≤ 2) {n : Nat} (hn : n ≤ 4) : ((List.range n).map f).sum.natAbs ≤ 8 := by
  have := sum_abs_le (l := (List.range n).map f) (B := 2) (N := 4) (by simpa using hn) (by
    intro u hu
    obtain ⟨b, _, rfl⟩ := List.mem_map.mp hu
    have := h b
    omega)
  exact this
section
variable {c : Cx} {A : Around}
theorem range_get {α : Type} (f : Nat → α) {n a : Nat} (ha : a < n) : ((List.range n).map f)[((a : Nat) : Int).toNat]? = some (f a) := by
  rw [Int.toNat_natCast, List.getElem?_map, List.getElem?_range ha]; rfl
noncomputable def rbA (q : Nat → List Nat) (n a : Nat) : Rho := (Str.ofString "a", .int a) :: rb6 q n
set_option maxHeartbeats 2000000 in
theorem rb_inner (O : c.Ok) {L : Addr} (hR : Rm A 6) {q : Nat → List Nat} (hq : QOk q) {n : Nat} (h2 : 2 ≤ n) (hn : n ≤ 4) {a b : Nat} (ha : a < n) (hb : b < n) {body : List Stmt}
    (hbody : body = (match rbBody.drop 13 with | .For _ _ (.For _ _ b _ _ :: _) _ _ :: _ => b | _ => [])) :
    Ex c (fun _ => False) A (callEnvC (fdAt 131) L 131) ((Str.ofString "b", .int b) :: rbA q n a) (execs body (callEnvC (fdAt 131) L 131)) (.next (rbA q n a)) := by
  subst hbody
  have ok : EnvOk (callEnvC (fdAt 131) L 131) := callEnv_ok rfl rfl rfl
  have hr := rate_bd n
  have hs := seamI_bd q a b
  have hS : ((List.range 4).map fun a => LI (rowI q a))[((a : Nat) : Int).toNat]? = some (LI (rowI q a)) := range_get _ (by omega)
  have hSb : ((rowI q a).map D.int)[((b : Nat) : Int).toNat]? = some (.int (seamI q a b)) := by
    unfold rowI
    rw [List.map_map]
    exact range_get _ (by omega)
  refine Ex.weak (ρ' := (Str.ofString "drop", .int (dropV q n a b)) :: (Str.ofString "b", .int b) :: rbA q n a) (ex_next (ex_Assign O rfl (.inl rfl) (ev_BinOp (ev_BinOp (ev_BinOp (ev_UnaryOp ev_int op_neg_int) (ev_Name rfl rfl rfl rfl) (op_mul_int (mulOkL (by decide)))) (ev_BinOp (ev_BinOp (ev_Name rfl rfl rfl rfl) (ev_Name rfl rfl rfl rfl) (op_mul_int (mulOkL (by omega)))) ev_int op_sub_int) (op_mul_int (mulOkL (by omega)))) (ev_item (ev_item (ev_Name rfl rfl rfl rfl) (ev_Name rfl rfl rfl rfl) (by omega) (by omega) hS) (ev_Name rfl rfl rfl rfl) (by omega) (by omega) hSb) (op_mul_int (mulOkR (by omega)))) rfl) ?_) (fun _ _ e => e) ?_
  · have hT : ((List.range n).map fun a => D.list (toldR q n a))[((a : Nat) : Int).toNat]? = some (.list (toldR q n a)) := range_get _ ha
    have hTb : (toldR q n a)[((b : Nat) : Int).toNat]? = some (toldD q n a b) := range_get _ hb
    have hL : ((List.range n).map fun a => D.list ((List.range n).map fun b => .flt (leftB q n a b)))[((a : Nat) : Int).toNat]? = some (.list ((List.range n).map fun b => .flt (leftB q n a b))) := range_get _ ha
    have hLb : ((List.range n).map fun b => D.flt (leftB q n a b))[((b : Nat) : Int).toNat]? = some (.flt (leftB q n a b)) := range_get _ hb
    have hM : ((List.range n).map fun a => D.list ((List.range n).map fun b => .flt (leftB q n a b)))[((b : Nat) : Int).toNat]? = some (.list ((List.range n).map fun b' => .flt (leftB q n b b'))) := range_get _ hb
    have hMb : ((List.range n).map fun b' => D.flt (leftB q n b b'))[((a : Nat) : Int).toNat]? = some (.flt (leftB q n b a)) := range_get _ ha
    by_cases hab : a = b
    · refine ex_next (ex_If (tv := false) ((tv_and (b := false) (tv_Compare (ev_Name rfl rfl rfl rfl) (ev_Name rfl rfl rfl rfl) cmp_ne_int rfl) (fun e => absurd e (by simp [hab]))).cast (by simp)) nofun (fun _ => ex_nil)) ex_nil
    · have e1 : toldD q n a b = .flt (colB (szs q n) (nxs n) a b) := by unfold toldD; rw [if_neg hab]
      rw [e1] at hTb
      have hbk := back_num (c := c) (A := A) O hR hq h2 hn ha hb hab
      refine ex_next (ex_If (tv := false) ((tv_and (tv_Compare (ev_Name rfl rfl rfl rfl) (ev_Name rfl rfl rfl rfl) cmp_ne_int rfl) (fun _ => tv_or (tv_Not (tv_val (ev_isfloat O ok rfl rfl (ev_item (ev_item (ev_Name rfl rfl rfl rfl) (ev_Name rfl rfl rfl rfl) (by omega) (by omega) hT) (ev_Name rfl rfl rfl rfl) (by omega) (by omega) hTb)) rfl)) (fun _ => tv_Compare (ev_BinOp (ev_BinOp (ev_Name rfl rfl rfl rfl) (ev_item (ev_item (ev_Name rfl rfl rfl rfl) (ev_Name rfl rfl rfl rfl) (by omega) (by omega) hL) (ev_Name rfl rfl rfl rfl) (by omega) (by omega) hLb) (op_mul_if (lim40 (by omega)))) (ev_item (ev_item (ev_Name rfl rfl rfl rfl) (ev_Name rfl rfl rfl rfl) (by omega) (by omega) hM) (ev_Name rfl rfl rfl rfl) (by omega) (by omega) hMb) op_add_ff) (ev_Name rfl rfl rfl rfl) cmp_ne_fi rfl))).cast ?_) nofun (fun _ => ex_nil)) ex_nil
      unfold dropV at hbk
      rw [hbk]
      simp
  · intro x d hx
    rw [List.lookup_cons]
    cases h1 : x == Str.ofString "drop" with
    | true => rw [eq_of_beq h1] at hx; cases hx
    | false =>
      rw [List.lookup_cons]
      cases h3 : x == Str.ofString "b" with
      | true => rw [eq_of_beq h3] at hx; cases hx
      | false => exact hx
set_option maxHeartbeats 2000000 in
theorem rb_outer (O : c.Ok) {L : Addr} (hR : Rm A 6) {q : Nat → List Nat} (hq : QOk q) {n : Nat} (h2 : 2 ≤ n) (hn : n ≤ 4) {a : Nat} (ha : a < n) {body : List Stmt}
    (hbody : body = (match rbBody.drop 13 with | .For _ _ b _ _ :: _ => b | _ => [])) :
    Ex c (fun _ => False) A (callEnvC (fdAt 131) L 131) (rbA q n a) (execs body (callEnvC (fdAt 131) L 131)) (.next (rb6 q n)) := by
  subst hbody
  have ok : EnvOk (callEnvC (fdAt 131) L 131) := callEnv_ok rfl rfl rfl
  have hsl := bigZ
  have hr := rate_bd n
  have hl := (ord_len n (by omega)).1
  have facts := ord_facts n (by omega)
  have hln : ((List.range n).map fun (b : Nat) => D.int b).length = n := by simp
  obtain ⟨pc, pb⟩ := place_cov (c := c) (A := A) O hR hq h2 hn ha
  have hS : ((List.range 4).map fun a => LI (rowI q a))[((a : Nat) : Int).toNat]? = some (LI (rowI q a)) := range_get _ (by omega)
  have s1 : Fn c A (.builtin "sum") [.list (((List.range n).map fun b => seamI q a b).map .int)] (.int ((List.range n).map fun b => seamI q a b).sum) := fn_sum_ints hR.hd
  have s2 : Fn c A (.builtin "sum") [.list (((List.range n).map fun b => seamI q b a).map .int)] (.int ((List.range n).map fun b => seamI q b a).sum) := fn_sum_ints hR.hd
  have hm1 := seamsum_bd (fun b => seamI q a b) (fun b => seamI_bd q a b) hn
  have hm2 := seamsum_bd (fun b => seamI q b a) (fun b => seamI_bd q b a) hn
  have hmore : (moreV q n a).natAbs ≤ 16 := by unfold moreV; omega
  have hrows : ((List.range 4).map fun a => LI (rowI q a)).take n = (List.range n).map fun a => LI (rowI q a) := by
    rw [← List.map_take, List.take_range, Nat.min_eq_left hn]
  refine Ex.weak (ρ' := (Str.ofString "more", .int (moreV q n a)) :: rbA q n a) (ex_next (ρ' := rbA q n a) (ex_For (ds := (List.range n).map fun (b : Nat) => D.int b) (fun _ => rbA q n a) O hR.hd rfl (.inl rfl) (fun _ q => q.elim) (it_range1 O ok rfl rfl (bi_range O) (ev_Name rfl rfl rfl rfl) (by omega)) (fun _ _ e => e) ?_) (ex_next (ρ' := (Str.ofString "more", .int (moreV q n a)) :: rbA q n a) (ex_Assign O rfl (.inl rfl) ((ev_BinOp (ev_callB O ok rfl rfl (.inr ⟨mg_sum O, mb_of O (by decide) rfl⟩) (evl_cons ((ev_sliceL (xs := (rowI q a).map .int) (lo := none) (hi := some (n : Int)) (k := none) (ev_item (ev_Name rfl rfl rfl rfl) (ev_Name rfl rfl rfl rfl) (by omega) (by omega) hS) evp_none (evp_some (ev_Name rfl rfl rfl rfl)) evp_none (by simp) (by simp [rowI]; omega)).cast (by rw [sliceL_upto, ← List.map_take, row_take q a hn])) evl_nil) s1)
    (ev_callB O ok rfl rfl (.inr ⟨mg_sum O, mb_of O (by decide) rfl⟩) (evl_cons (ev_ListComp (ds := (List.range n).map fun a => LI (rowI q a)) (es := ((List.range n).map fun b => seamI q b a).map .int) O hR.hd rfl rfl (by decide +kernel) (.inl rfl) (by decide +kernel) (it_list ((ev_sliceL (lo := none) (hi := some (n : Int)) (k := none) (ev_Name rfl rfl rfl rfl) evp_none (evp_some (ev_Name rfl rfl rfl rfl)) evp_none (by simp) (by simp; omega)).cast (by rw [sliceL_upto, hrows]))) (by simp) ?_ (by simp; omega)) evl_nil) s2) op_sub_int).cast rfl) rfl) (ex_next (ex_If (tv := false) ((tv_Compare (ev_BinOp ev_int (ev_call O ok rfl rfl (mg_is O rfl) (O.K 80 _ rfl) rfl (evl_cons (ev_Name rfl rfl rfl rfl) (evl_cons (ev_ListComp (ds := (ordV n).map LI) (es := plD n a) O hR.hd rfl rfl (by decide +kernel) (.inl rfl) (by decide +kernel) (it_list (ev_Name rfl rfl rfl rfl)) (by simp [plD]) ?_ (by simp [plD]; omega)) evl_nil)) pc) (op_mul_if (lim40 (by decide)))) (ev_BinOp (ev_BinOp (ev_BinOp (ev_UnaryOp ev_int op_neg_int) (ev_Name rfl rfl rfl rfl) (op_mul_int (mulOkL (by decide)))) (ev_BinOp (ev_Name rfl rfl rfl rfl) ev_int op_sub_int) (op_mul_int (mulOkL (by omega)))) (ev_Name rfl rfl rfl rfl) (op_mul_int (mulOkR (by omega)))) cmp_ne_fi rfl).cast pb) nofun (fun _ => ex_nil)) ex_nil))) (fun _ _ e => e) ?_
  · intro i d hd
    obtain ⟨b, _, rfl, hb⟩ := list_get' hd
    exact rb_inner O hR hq h2 hn ha (List.mem_range.mp hb) rfl
  · intro c' C O' _ _ _ _ _ i d e hd he
    rw [List.map_map] at he
    obtain ⟨b, _, rfl, rfl, hb⟩ := list_get2 hd he
    refine ev_item (ev_Name rfl rfl rfl rfl) (ev_Name rfl rfl rfl rfl) (by omega) (by omega) ?_
    unfold rowI
    rw [List.map_map]
    exact range_get (fun b' => D.int (seamI q b b')) (by omega)
  · intro c' C O' _ _ _ _ _ i d e hd he
    unfold plD at he
    rw [List.map_map] at he
    obtain ⟨o, _, rfl, rfl, ho⟩ := list_get2 hd he
    exact ev_BinOp ev_int (ev_index rfl rfl rfl (ev_Name rfl rfl rfl rfl) (ev_Name rfl rfl rfl rfl) (ord_has n (by omega) o ho a ha) (by
      have h1 := ord_lay n (by omega) o ho
      exact h1)) (op_mul_int (mulOkL (by decide)))
  · intro x d hx
    have h0 : x ≠ Str.ofString "a" := by rintro rfl; cases hx
    have h1 : x ≠ Str.ofString "more" := by rintro rfl; cases hx
    rw [List.lookup_cons, show (x == Str.ofString "more") = false from by simpa using h1]
    show List.lookup x (rbA q n a) = _
    unfold rbA
    rw [List.lookup_cons, show (x == Str.ofString "a") = false from by simpa using h0]
    exact hx
set_option maxHeartbeats 2000000 in
theorem rb_end (O : c.Ok) {L : Addr} (hR : Rm A 6) {q : Nat → List Nat} (hq : QOk q) {n : Nat} (h2 : 2 ≤ n) (hn : n ≤ 4) :
    Ex c (fun _ => False) A (callEnvC (fdAt 131) L 131) (rb6 q n) (execs (rbBody.drop 13) (callEnvC (fdAt 131) L 131)) (.ret (.bool true)) := by
  have ok : EnvOk (callEnvC (fdAt 131) L 131) := callEnv_ok rfl rfl rfl
  refine ex_next (ρ' := rb6 q n) (ex_For (ds := (List.range n).map fun (a : Nat) => D.int a) (fun _ => rb6 q n) O hR.hd rfl (.inr ⟨rfl, rfl⟩) (fun _ q => q.elim) (it_range1 O ok rfl rfl (bi_range O) (ev_Name rfl rfl rfl rfl) (by omega)) (fun _ _ e => e) ?_) (ex_ret (ex_Return ev_bool))
  intro i d hd
  obtain ⟨a, _, rfl, ha⟩ := list_get' hd
  exact rb_outer O hR hq h2 hn (List.mem_range.mp ha) rfl
/-- the read-back gives True -/
theorem fn_readback (O : c.Ok) (hA : Rm A 7) {q : Nat → List Nat} (hq : QOk q) {n : Nat} (h2 : 2 ≤ n) (hn : n ≤ 4) : Fn c A (.ref 131) [PD q, AD q, SD q, .int n] (.bool true) := by
  refine fn_call (fd := fdAt 131) (ps := [Str.ofString "pieces", Str.ofString "alone", Str.ofString "seams", Str.ofString "n"]) (k := 6) O hA (O.K 131 _ rfl) rfl rfl ⟨130, _, _, _, rfl, O.K 130 _ rfl, nofun, rfl, rfl⟩ ?_ rfl (by decide) rfl rfl ?_ rfl rfl rfl
  · intro vals hv
    match vals, hv with
    | [x, y, z, w], _ => rfl
  · intro L hR
    exact rb_due O hR hq h2 hn (rb_sent O hR hq h2 hn (rb_sizes O hR hq h2 hn (rb_told O hR hq h2 hn (rb_avg O hR hq h2 hn (rb_end O hR hq h2 hn)))))
end
end Mine
end
/-! LawF -/
section
open PySem PySem.W PyProof.Rows
set_option linter.unusedVariables false
set_option maxRecDepth 10000
namespace Mine
theorem str_eta (s : Str) : (⟨s.cps.toList.toArray⟩ : Str) = s := by cases s; simp
def startV (i : Nat) : Int := if i = 0 then 1 else if i = 1 then 20 else if i = 2 then 41 else 2
def everyV (ns : List Int) (i : Nat) : List Int := (sliceRange (sliceBounds (some (i : Int)) none (some 4) ns.length).1 (sliceBounds (some (i : Int)) none (some 4) ns.length).2.1 (sliceBounds (some (i : Int)) none (some 4) ns.length).2.2).filterMap (ns[·]?)
theorem fm_map (ns : List Int) : ∀ l : List Nat, l.filterMap ((ns.map D.int)[·]?) = (l.filterMap (ns[·]?)).map .int
  | [] => rfl
  | i :: l => by
    have ih := fm_map ns l
    rw [List.filterMap_cons, List.filterMap_cons, List.getElem?_map]
    cases ns[i]? with
    | none => simpa using ih
    | some x => simpa using ih
theorem every_slice (ns : List Int) (i : Nat) : sliceL (ns.map .int) (some (i : Int)) none (some 4) = (everyV ns i).map .int := by
  unfold sliceL everyV
  rw [List.length_map, fm_map]
theorem every_len (ns : List Int) {i : Nat} (hi : i < 4) : (everyV ns i).length ≤ ns.length + 4 := by
  unfold everyV
  refine Nat.le_trans (List.length_filterMap_le _ _) ?_
  have e : sliceBounds (some (i : Int)) none (some 4) ns.length = (((min i ns.length : Nat) : Int), (ns.length : Int), 4) := by
    simp only [sliceBounds]
    have h1 : ¬ ((i : Int) < 0) := by omega
    simp [h1]
    omega
  rw [e]
  unfold sliceRange
  simp only [List.length_map, List.length_range]
  split
  · split <;> omega
  · omega
noncomputable def pq (ns : List Int) (k : Nat) : List Nat := (pieceS (pieceV (startV k) (everyV ns k))).cps.toList
theorem pq_ok (ns : List Int) : QOk (pq ns) := by
  have h : ∀ k, PieceOk (pieceS (pieceV (startV k) (everyV ns k))) := fun k => pieceS_ok _ (pieceV_rng _ _)
  refine ⟨fun k _ e => ?_, fun k _ => ?_, fun k _ => (h k).ch⟩
  · have h1 := (h k).pos
    have h2 : (pq ns k).length = (pieceS (pieceV (startV k) (everyV ns k))).length := by simp [pq, Str.length]
    rw [e] at h2
    simp at h2
    omega
  · have h1 := (h k).le
    have h2 : (pq ns k).length = (pieceS (pieceV (startV k) (everyV ns k))).length := by simp [pq, Str.length]
    omega
theorem pq_tx (ns : List Int) (k : Nat) : tx (pq ns k) = .str (pieceS (pieceV (startV k) (everyV ns k))) := by unfold tx pq; rw [str_eta]
theorem starts_get {i : Nat} (hi : i < 4) : ([D.int 1, .int 20, .int 41, .int 2])[((i : Nat) : Int).toNat]? = some (.int (startV i)) := by
  have : i = 0 ∨ i = 1 ∨ i = 2 ∨ i = 3 := by omega
  rcases this with rfl | rfl | rfl | rfl <;> rfl
section
variable {c : Cx} {A : Around}
noncomputable def lawBody : List Stmt := match (fdAt 136).body with | .stmts b => b | _ => []
theorem seam_call (O : c.Ok) (hA : Rm A 3) {q : Nat → List Nat} (hq : QOk q) {a b : Nat} (ha : a < 4) (hb : b < 4) (hne : a ≠ b) : Fn c A (.ref 121) [tx (q a), tx (q b)] (.int (seamI q a b)) := by
  have h1 := hq.ne a ha
  have h2 := hq.ne b hb
  have e : seamI q a b = seamV ((q a).getLastD 0) ((q b).headD 0) := by
    unfold seamI sm
    rw [if_neg hne]
    have := seamV_nonneg ((q a).getLastD 0) ((q b).headD 0)
    omega
  rw [e]
  have hlen : (⟨(q a).toArray⟩ : Str).length = (q a).length := tx_len _
  have hla := hq.le a ha
  refine fn_seam O hA ?_ ?_ (by rw [hlen]; omega) ?_
  · show (q b).toArray[0]? = _
    cases hb' : q b with
    | nil => exact absurd hb' h2
    | cons x r => simp
  · rw [hlen]
    show (q a).toArray[(q a).length - 1]? = _
    rw [List.getElem?_toArray, ← List.getLast?_eq_getElem?, List.getLastD_eq_getLast?]
    cases hl : (q a).getLast? with
    | none => exact absurd (List.getLast?_eq_none_iff.mp hl) h1
    | some x => rfl
  · have : (q a).getLastD 0 ∈ q a := by
      rw [List.getLastD_eq_getLast?]
      cases hl : (q a).getLast? with
      | none => exact absurd (List.getLast?_eq_none_iff.mp hl) h1
      | some x => exact List.mem_of_getLast? hl
    have := hq.ch a ha _ this
    omega
set_option maxHeartbeats 2000000 in
theorem fn_law (O : c.Ok) (hA : Rm A 8) {ns : List Int} (hz : ns.length ≤ 63) : Fn c A (.ref 136) [.list (ns.map .int)] (.bool true) := by
  refine fn_call (fd := fdAt 136) (ps := [Str.ofString "script"]) (k := 7) O hA (O.K 136 _ rfl) rfl rfl ⟨135, _, _, _, rfl, O.K 135 _ rfl, nofun, rfl, rfl⟩ ?_ rfl (by decide) rfl rfl ?_ rfl rfl rfl
  · intro vals hv
    match vals, hv with
    | [x], _ => rfl
  · intro L hR
    have ok : EnvOk (callEnvC (fdAt 136) L 136) := callEnv_ok rfl rfl rfl
    have hsl := bigZ
    have hq := pq_ok ns
    refine ex_next (ρ' := [(Str.ofString "pieces", PD (pq ns)), (Str.ofString "script", .list (ns.map .int))]) (ex_Assign O rfl (.inr ⟨rfl, rfl⟩) (ev_ListComp (ds := (List.range 4).map fun (i : Nat) => D.int i) (es := (List.range 4).map fun k => tx (pq ns k)) O hR.hd rfl rfl (by decide +kernel) (.inl rfl) (by decide +kernel) (it_range1 O ok rfl rfl (bi_range O) (ev_int (i := ((4 : Nat) : Int))) (by omega)) (by simp) ?_ (by simp; omega)) rfl) ?_
    · intro c' C O' _ _ _ _ _ i d e hd he
      obtain ⟨k, _, rfl, rfl, hk⟩ := list_get2 hd he
      have hk' := List.mem_range.mp hk
      rw [pq_tx]
      exact ev_call O' ⟨rfl, rfl, rfl⟩ rfl rfl (mg_is O' rfl) (O'.K 102 _ rfl) rfl (evl_cons (ev_item (ev_List (evl_cons ev_int (evl_cons ev_int (evl_cons ev_int (evl_cons ev_int evl_nil))))) (ev_Name rfl rfl rfl rfl) (by omega) (by omega) (starts_get hk')) (evl_cons ((ev_sliceL (lo := some (k : Int)) (hi := none) (k := some 4) (ev_Name rfl rfl rfl rfl) (evp_some (ev_Name rfl rfl rfl rfl)) evp_none (evp_some ev_int) (by simp) (by simp; omega)).cast (by rw [every_slice])) evl_nil)) (fn_piece O' (hR.le (by omega)) (by have := every_len ns hk'; omega))
    refine ex_next (ρ' := [(Str.ofString "alone", AD (pq ns)), (Str.ofString "pieces", PD (pq ns)), (Str.ofString "script", .list (ns.map .int))]) (ex_AssignComp (ds := (List.range 4).map fun k => tx (pq ns k)) (es := (List.range 4).map fun k => tx (sentGo none (pq ns k))) O hR.hd rfl (.inl rfl) rfl rfl rfl (by decide +kernel) (.inl rfl) (by decide +kernel) (it_list (ev_Name rfl rfl rfl rfl)) (by simp) ?_ (by simp; omega)) ?_
    · intro c' C O' _ _ _ _ _ i d e hd he
      obtain ⟨k, _, rfl, rfl, hk⟩ := list_get2 hd he
      have hk' := List.mem_range.mp hk
      exact ev_call O' ⟨rfl, rfl, rfl⟩ rfl rfl (mg_is O' rfl) (O'.K 114 _ rfl) rfl (evl_cons (ev_Name rfl rfl rfl rfl) evl_nil) (fn_sent O' (hR.le (by omega)) (by rw [tx_len]; have := hq.le k hk'; omega) (fun a ha => by have := hq.ch k hk' a ha; omega))
    have hne : (!PyData.eqv (toP (AD (pq ns))) (toP (AD (pq ns)))) = false := by
      unfold AD
      simp only [toP, PyData.eqv, eqv_txs]
      rfl
    have hch : ∀ k ∈ List.range 4, ∀ a ∈ sentGo none (pq ns k), a < 0x110000 := by
      intro k hk a ha
      have hk' := List.mem_range.mp hk
      have := sent_chars (pq ns k) none 15625 (by decide) (hq.ch k hk') a ha
      omega
    refine ex_next (ex_If (tv := false) ((tv_Compare (ev_ListComp (ds := (List.range 4).map fun k => tx (pq ns k)) (es := (List.range 4).map fun k => tx (sentGo none (pq ns k))) O hR.hd rfl rfl (by decide +kernel) (.inl rfl) (by decide +kernel) (it_list (ev_Name rfl rfl rfl rfl)) (by simp) ?_ (by simp; omega)) (ev_Name rfl rfl rfl rfl) (cmp_ne_data (noF_txs _ _) (noF_txs _ _) (shaped_txs _ _ hch) (shaped_txs _ _ hch) hR.room) rfl).cast hne) nofun (fun _ => ex_nil)) ?_
    · intro c' C O' _ _ _ _ _ i d e hd he
      obtain ⟨k, _, rfl, rfl, hk⟩ := list_get2 hd he
      have hk' := List.mem_range.mp hk
      exact ev_call O' ⟨rfl, rfl, rfl⟩ rfl rfl (mg_is O' rfl) (O'.K 97 _ rfl) rfl (evl_cons (ev_Name rfl rfl rfl rfl) evl_nil) (fn_quote O' (hR.le (by omega)) (by rw [tx_len]; have := hq.le k hk'; omega) (by rw [tx_len]; intro e; exact hq.ne k hk' (List.eq_nil_of_length_eq_zero e)))
    refine ex_next (ρ' := [(Str.ofString "seams", SD (pq ns)), (Str.ofString "alone", AD (pq ns)), (Str.ofString "pieces", PD (pq ns)), (Str.ofString "script", .list (ns.map .int))]) (ex_AssignComp (ds := (List.range 4).map fun (a : Nat) => D.int a) (es := (List.range 4).map fun a => LI (rowI (pq ns) a)) O hR.hd rfl (.inl rfl) rfl rfl rfl (by decide +kernel) (.inr rfl) (by decide +kernel) (it_range1 O ok rfl rfl (bi_range O) (ev_int (i := ((4 : Nat) : Int))) (by omega)) (by simp) ?_ (by simp; omega)) ?_
    · intro c' C O' _ _ _ _ _ i d e hd he
      obtain ⟨a, _, rfl, rfl, ha⟩ := list_get2 hd he
      have ha' := List.mem_range.mp ha
      refine (ev_ListComp (ds := (List.range 4).map fun (b : Nat) => D.int b) (es := (rowI (pq ns) a).map .int) O' hR.hd rfl rfl (by decide +kernel) (.inl rfl) (by decide +kernel) (it_range1 O' ⟨rfl, rfl, rfl⟩ rfl rfl (bi_range O') (ev_int (i := ((4 : Nat) : Int))) (by omega)) (by simp [rowI]) ?_ (by simp [rowI]; omega)).cast rfl
      intro c'' C' O'' _ _ _ _ _ j d e hd he
      unfold rowI at he
      rw [List.map_map] at he
      obtain ⟨b, _, rfl, rfl, hb⟩ := list_get2 hd he
      have hb' := List.mem_range.mp hb
      refine (ev_IfExp (tv := decide (a = b)) (d₁ := .int 0) (d₂ := .int (seamI (pq ns) a b)) ((tv_Compare (ev_Name rfl rfl rfl rfl) (ev_Name rfl rfl rfl rfl) cmp_eq_int rfl).cast (by by_cases e : a = b <;> simp [e]; omega)) (fun _ => ev_int) (fun hne => ?_)).cast ?_
      · have hne' : a ≠ b := by simpa using hne
        exact ev_call O'' ⟨rfl, rfl, rfl⟩ rfl rfl (mg_is O'' rfl) (O''.K 121 _ rfl) rfl (evl_cons (ev_item (ev_Name rfl rfl rfl rfl) (ev_Name rfl rfl rfl rfl) (by omega) (by omega) (range_get (fun k => tx (pq ns k)) ha')) (evl_cons (ev_item (ev_Name rfl rfl rfl rfl) (ev_Name rfl rfl rfl rfl) (by omega) (by omega) (range_get (fun k => tx (pq ns k)) hb')) evl_nil)) (seam_call O'' (hR.le (by omega)) hq ha' hb' hne')
      · show _ = D.int (seamI (pq ns) a b)
        by_cases e : a = b
        · unfold seamI; simp [e]
        · simp [e]
    refine ex_next (ρ' := [(Str.ofString "seams", SD (pq ns)), (Str.ofString "alone", AD (pq ns)), (Str.ofString "pieces", PD (pq ns)), (Str.ofString "script", .list (ns.map .int))]) (ex_For (ds := (List.range 3).map fun (i : Nat) => D.int (2 + i)) (fun _ => [(Str.ofString "seams", SD (pq ns)), (Str.ofString "alone", AD (pq ns)), (Str.ofString "pieces", PD (pq ns)), (Str.ofString "script", .list (ns.map .int))]) O hR.hd rfl (.inl rfl) (fun _ q => q.elim) (it_range2 O ok rfl rfl (bi_range O) ev_int (ev_int (i := 2 + ((3 : Nat) : Int))) (by decide) (by decide) (by decide)) (fun _ _ e => e) ?_) (ex_ret (ex_Return ev_bool))
    intro i d hd
    obtain ⟨k, _, rfl, hk⟩ := list_get' hd
    have hk' := List.mem_range.mp hk
    have hcall := fn_readback (c := c) (A := A.deeper (callEnvC (fdAt 136) L 136)) O hR hq (n := 2 + k) (by omega) (by omega)
    have hcast : (((2 + k : Nat)) : Int) = 2 + (k : Int) := by omega
    rw [hcast] at hcall
    refine Ex.weak (ρ' := (Str.ofString "n", .int (2 + (k : Int))) :: [(Str.ofString "seams", SD (pq ns)), (Str.ofString "alone", AD (pq ns)), (Str.ofString "pieces", PD (pq ns)), (Str.ofString "script", .list (ns.map .int))]) (ex_next (ex_If (tv := false) ((tv_Not (tv_val (ev_call O ok rfl rfl (mg_is O rfl) (O.K 131 _ rfl) rfl (evl_cons (ev_Name rfl rfl rfl rfl) (evl_cons (ev_Name rfl rfl rfl rfl) (evl_cons (ev_Name rfl rfl rfl rfl) (evl_cons (ev_Name rfl rfl rfl rfl) evl_nil)))) hcall) rfl)).cast rfl) nofun (fun _ => ex_nil)) ex_nil) (fun _ _ e => e) ?_
    intro x d hx
    rw [List.lookup_cons]
    cases h1 : x == Str.ofString "n" with
    | true => rw [eq_of_beq h1] at hx; cases hx
    | false => exact hx
end
end Mine
end
/-! Join -/
section
open PySem PySem.W PyProof.Rows
set_option linter.unusedVariables false
set_option maxRecDepth 100000
namespace Mine
theorem mg_is' {c : Cx} (hg : c.h₀.Ns mainGlobals c.mg) (hK : (hd.heap_39 c.w.params).In c.h₀) {x : Str} {r : Option Value} (h : (match ((hd.heap_39 c.w.params).lookup 3).map (·.data) with | some (.dict es _) => nsFind es x | _ => none) = r) : c.mg x = r := by
  obtain ⟨o, es, ep, ho, hd, _, hf⟩ := hg
  have h3 := hK 3 _ rfl
  have ho' : c.h₀.get? 3 = some o := ho
  rw [h3] at ho'
  injection ho' with ho'
  subst ho'
  rw [← hf, ← h]
  injection hd with e1 e2
  subst e1
  rfl
theorem covRec : ∃ d ∈ recsOf hd.view_39, d.name = Str.ofString "covariance" := by
  have h : (recsOf hd.view_39).any (fun d => d.name == Str.ofString "covariance") = true := by decide +kernel
  obtain ⟨d, hd, e⟩ := List.any_eq_true.mp h
  exact ⟨d, hd, eq_of_beq e⟩
theorem rpl_ints {X : Addr → Prop} {P : Params} {h : Heap} : ∀ {ns : List Int} {vs : List Value}, WellAll P h vs (ns.map .int) → RpL X h vs (ns.map .int)
  | [], _, x => by cases x; exact RpL.nil
  | n :: ns, _, x => by
    obtain ⟨v, vs', rfl, h1, h2⟩ := wellAll_cons_inv x
    obtain ⟨t, rfl⟩ : ∃ t, v = .int n t := by cases h1; exact ⟨_, rfl⟩
    exact RpL.cons (rp_int.mpr ⟨t, rfl⟩) (rpl_ints h2)
theorem tab_is {p : Program} {loose : List Str} {mean : ExcName → Option Value} {mg mb : Str → Option Value} {h : Heap} {P : Params} (T : Top p loose mean mg mb h) (K : (hd.heap_39 P).In h) {d : DefRec} (hd' : d ∈ recsOf p) (hm : mg d.name = some (.ref 80)) : h.IsCode 79 75 #[] ∧ h.TableAt 79 75 #[] := by
  obtain ⟨a, o, fd, c, Pt, h1, h2, h3, h4, h5, h6⟩ := T.tab d hd'
  rw [hm] at h1
  cases h1
  have h80 := K 80 _ rfl
  rw [h80] at h2
  cases h2
  cases h3
  cases h4
  obtain ⟨⟨o', vs, g1, g2, g3, g4⟩, g5⟩ := h6
  have h79 := K 79 _ rfl
  rw [h79] at g1
  cases g1
  cases g3
  have e : Pt = 75 := by
    have : some (Value.ref 75) = some (.ref Pt) := g4
    cases this; rfl
  subst e
  exact ⟨h5, ⟨⟨_, _, h79, g2, rfl, g4⟩, g5⟩⟩
theorem join : PySem.Challenge.rw_rs0033_01.Holds := by
  refine hd (fun w s₀ s₁ mg mb Gd Y a o pm cd doc dV kV ho hdat hcd hdf hmg hgens args vals as hpre hlay hrd hwell hsys => ?_)
  have T := Gd.T
  have KX := km_in_of Y
  obtain ⟨dc, hdc, hdn⟩ := covRec
  have hm80 : mg dc.name = some (.ref 80) := by
    rw [hdn]
    exact mg_is' (c := { prog := PySem.Challenge.rw_rs0033_01.row.toRowW.prog, w, h₀ := s₁.heap, os₀ := s₁.os, mg, mb, cc := 79, cP := 75, av := fun _ => False }) T.g KX rfl
  obtain ⟨hIC, hTA⟩ := tab_is T KX hdc hm80
  let c : Cx := { prog := PySem.Challenge.rw_rs0033_01.row.toRowW.prog, w, h₀ := s₁.heap, os₀ := s₁.os, mg, mb, cc := 79, cP := 75, av := fun _ => False }
  have O : c.Ok := ⟨T.g, T.b, T.nolimit, hTA, (by decide : (75 : Addr) ≠ cStatics), KX, T.builtins, T.bmain, rfl, rfl⟩
  have g : G c s₁ := ⟨OldK.refl _, KK.refl _, rfl, AllBare.of_eq hgens, ⟨#[], hTA, hIC⟩, fun a h => h.elim⟩
  have ha : a = 136 := by
    have e1 : c.mg (Str.ofString "law") = some (.ref 136) := mg_is O rfl
    have e2 : some (Value.ref 136) = some (.ref a) := e1.symm.trans hmg
    cases e2; rfl
  subst ha
  have hsh := (pre_splitW hpre).1
  have hcond := (pre_splitW hpre).2
  obtain ⟨d, r, rfl, hd1, hd2⟩ := hasAllW_cons hsh
  obtain rfl := hasAllW_nil hd2
  obtain ⟨xs, rfl, hit⟩ := hasW_list hd1
  obtain ⟨ns, rfl⟩ := items_int hit
  have hz : ns.length ≤ 63 := by
    have h1 : (WTm.not (.lt (.lit (.int 63)) (.len (.arg 0)))).holds [] { args := [.list (ns.map .int)] } = true := (holds_andW hcond).1
    have h2 := condW_of (X := !decide ((63 : Int) < (((ns.map WData.int).length : Nat) : Int))) h1 rfl
    simp only [Bool.not_eq_true', decide_eq_false_iff_not, List.length_map] at h2
    omega
  obtain ⟨v, vs', rfl, hw1, hw2⟩ := wellAll_cons_inv hwell
  cases hw2
  have hR : RpL c.av s₁.heap [v] [.list (ns.map .int)] := by
    cases hw1 with
    | list h1 h2 => exact RpL.one (rp_list.mpr ⟨_, _, rfl, fun h => h, ⟨_, h1⟩, by simpa using rpl_ints h2⟩)
  have hA : Rm callerA 8 := ⟨rfl, by decide, by decide⟩
  refine (fn_law O hA hz).run s₁ _ _ _ g hR fun v' s' g' k' r' => ?_
  obtain rfl := rp_bool.mp r'
  refine ⟨.inl ⟨_, .bool true, [], rfl, fun cls => rfl, ReadsW.bool _, ?_, fun _ => ⟨List.nodup_nil, fun a h => by cases h⟩⟩, g'.old, g'.os, g'.bare⟩
  have hp : (WTm.eq .res (.lit (.bool true))).value [] { args := [.list (ns.map .int)], res := some (.bool true), after := [.list (ns.map .int)] } = some (.bool (true == true)) := w_eq_bool (w_res rfl) w_lit
  exact postW_of (r := PySem.Challenge.rw_rs0033_01.row.toRowW) (X := true == true) (by decide) hp rfl
end Mine
end
set_option maxRecDepth 100000 in
theorem PySem.Challenge.cw_rs0033_01_holds : PySem.Challenge.rw_rs0033_01.Holds := by
  exact Mine.join
