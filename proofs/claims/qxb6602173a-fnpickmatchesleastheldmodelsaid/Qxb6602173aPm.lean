import Derived.Test.Qxb6602173aPick1
namespace Go.Proofs.Qxb6602173a
open Go.RowKit
set_option linter.unusedVariables false
set_option linter.unusedSimpArgs false

/-- The Picker's fields. -/
structure Pk where
  st : List Int
  ver : Int
  act : Int
  sec : List Bool
  que : Int
  held : List Int
  ord : List Int
  at_ : List Int
  starts : List Int

/-- Where its arrays lie, and their capacities. -/
structure Ad where
  s : Option Addr
  c : Option Addr
  h : Option Addr
  o : Option Addr
  a : Option Addr
  t : Option Addr
  cs : Nat
  cc : Nat
  ch : Nat
  co : Nat
  ca : Nat
  ct : Nat

def Apt (a b : Option Addr) : Prop := ∀ g, a = some ⟨g, 0, none⟩ → ¬ b = some ⟨g, 0, none⟩

/-- The Picker P lies in w: its box at block pb, its arrays apart from each other, all from B on. -/
structure PM (w : World) (B pb : Nat) (D : Ad) (P : Pk) : Prop where
  box : Bx w pb (.slice D.s P.st.length D.cs) P.ver P.act (.slice D.c P.sec.length D.cc) P.que (.slice D.h P.held.length D.ch) (.slice D.o P.ord.length D.co) (.slice D.a P.at_.length D.ca) (.slice D.t P.starts.length D.ct)
  hB : B ≤ pb
  s : Own w B 51 D.s P.st.length D.cs (u8s P.st)
  c : Own w B 4 D.c P.sec.length D.cc (bools P.sec)
  h : Own w B 3 D.h P.held.length D.ch (ints P.held)
  o : Own w B 3 D.o P.ord.length D.co (ints P.ord)
  a : Own w B 3 D.a P.at_.length D.ca (ints P.at_)
  t : Own w B 3 D.t P.starts.length D.ct (ints P.starts)
  ho : Apt D.h D.o
  ha : Apt D.h D.a
  ht : Apt D.h D.t
  oa : Apt D.o D.a
  ot : Apt D.o D.t
  at_ : Apt D.a D.t

theorem PM.drewN {w : World} {B pb : Nat} {D : Ad} {P : Pk} (h : PM w B pb D P) (q : Nat) : PM (w.drewN q) B pb D P := ⟨h.box, h.hB, h.s, h.c, h.h, h.o, h.a, h.t, h.ho, h.ha, h.ht, h.oa, h.ot, h.at_⟩

/-- A block's element type tells two rows apart. -/
theorem Own.ty {w : World} {B B' : Nat} {e e' : TypeId} {a a' : Option Addr} {n n' cap cap' : Nat} {vs vs' : List Value} (h : Own w B e a n cap vs) (h' : Own w B' e' a' n' cap' vs') (hne : e ≠ e') : Apt a a' := by
  intro g hg hg'
  obtain ⟨_, _, _, _, h⟩ := h
  obtain ⟨_, _, _, _, h'⟩ := h'
  rcases h with ⟨h, _⟩ | ⟨g1, r1, e1, _, b1, _⟩
  · rw [h] at hg; cases hg
  · rcases h' with ⟨h', _⟩ | ⟨g2, r2, e2, _, b2, _⟩
    · rw [h'] at hg'; cases hg'
    · rw [hg] at e1; rw [hg'] at e2
      cases e1; cases e2
      rw [b1] at b2
      simp at b2
      exact hne b2.2
theorem Own.boxty {w : World} {B : Nat} {e : TypeId} {a : Option Addr} {n cap : Nat} {vs : List Value} (h : Own w B e a n cap vs) {pb : Nat} {c : Array Value} {e' : TypeId} {f : Nat × Nat} (hb : w.heap[pb]? = some (.cells c e' f)) (hne : e ≠ e') : ¬ a = some ⟨pb, 0, none⟩ := by
  intro hg
  obtain ⟨_, _, _, _, h⟩ := h
  rcases h with ⟨h, _⟩ | ⟨g1, r1, e1, _, b1, _⟩
  · rw [h] at hg; cases hg
  · rw [hg] at e1
    cases e1
    rw [hb] at b1
    simp at b1
    exact hne b1.2.1.symm
theorem Apt.symm {a b : Option Addr} (h : Apt a b) : Apt b a := fun g hb ha => h g ha hb

/-- One store into an own row: the frame. -/
theorem fr_setCell (w : World) (g i : Nat) (u : Value) : Fr (fun k => k = g) w (w.setCell ⟨g, i, none⟩ u) :=
  ⟨rfl, rfl, rfl, by simp [World.setCell], fun k _ hk => Below.heap_setCell w _ u k hk⟩
theorem heap_setCell_at {w : World} {g : Nat} {c : Array Value} {e : TypeId} {f : Nat × Nat} (h : w.heap[g]? = some (.cells c e f)) (i : Nat) (u : Value) : (w.setCell ⟨g, i, none⟩ u).heap[g]? = some (.cells (c.setIfInBounds i u) e f) := by
  simp [World.setCell, Array.getElem?_modify, h]

/-- The frame of the Picker's blocks. -/
theorem PM.lt {w : World} {B pb : Nat} {D : Ad} {P : Pk} (h : PM w B pb D P) : pb < w.heap.size := heap_lt h.box

theorem PM.fr {F : Nat → Prop} {w w' : World} {B pb : Nat} {D : Ad} {P : Pk} (h : PM w B pb D P) (hf : Fr F w w') (hF : ∀ k, B ≤ k → ¬ F k) : PM w' B pb D P := by
  have hb := h.box
  unfold Bx at hb
  exact { h with
    box := by unfold Bx; rw [hf.block pb (heap_lt hb) (hF pb h.hB)]; exact hb
    s := h.s.fr hf fun b e => hF b (h.s.lt e).1
    c := h.c.fr hf fun b e => hF b (h.c.lt e).1
    h := h.h.fr hf fun b e => hF b (h.h.lt e).1
    o := h.o.fr hf fun b e => hF b (h.o.lt e).1
    a := h.a.fr hf fun b e => hF b (h.a.lt e).1
    t := h.t.fr hf fun b e => hF b (h.t.lt e).1 }
theorem PM.below {w w' : World} {B pb : Nat} {D : Ad} {P : Pk} (h : PM w B pb D P) (hf : Below w.heap.size w w') : PM w' B pb D P :=
  h.fr (F := fun _ => False) (Fr.all hf) (fun _ _ => id)

/-- A store into the box. -/
theorem PM.setAct {w : World} {B pb : Nat} {D : Ad} {P : Pk} (h : PM w B pb D P) (v : Int) : PM (w.setCell ⟨pb, 2, none⟩ (.int .i64 v)) B pb D { P with act := v } := by
  have hb := h.box
  unfold Bx at hb
  have hf := fr_setCell w pb 2 (.int .i64 v)
  exact { h with
    box := by unfold Bx; rw [heap_setCell_at hb]; rfl
    s := h.s.fr hf fun b e k => h.s.boxty hb (by decide) (k ▸ e)
    c := h.c.fr hf fun b e k => h.c.boxty hb (by decide) (k ▸ e)
    h := h.h.fr hf fun b e k => h.h.boxty hb (by decide) (k ▸ e)
    o := h.o.fr hf fun b e k => h.o.boxty hb (by decide) (k ▸ e)
    a := h.a.fr hf fun b e k => h.a.boxty hb (by decide) (k ▸ e)
    t := h.t.fr hf fun b e k => h.t.boxty hb (by decide) (k ▸ e) }
theorem PM.setVer {w : World} {B pb : Nat} {D : Ad} {P : Pk} (h : PM w B pb D P) (v : Int) : PM (w.setCell ⟨pb, 1, none⟩ (.int .i64 v)) B pb D { P with ver := v } := by
  have hb := h.box
  unfold Bx at hb
  have hf := fr_setCell w pb 1 (.int .i64 v)
  exact { h with
    box := by unfold Bx; rw [heap_setCell_at hb]; rfl
    s := h.s.fr hf fun b e k => h.s.boxty hb (by decide) (k ▸ e)
    c := h.c.fr hf fun b e k => h.c.boxty hb (by decide) (k ▸ e)
    h := h.h.fr hf fun b e k => h.h.boxty hb (by decide) (k ▸ e)
    o := h.o.fr hf fun b e k => h.o.boxty hb (by decide) (k ▸ e)
    a := h.a.fr hf fun b e k => h.a.boxty hb (by decide) (k ▸ e)
    t := h.t.fr hf fun b e k => h.t.boxty hb (by decide) (k ▸ e) }

theorem set_ints (l : List Int) (i : Nat) (x : Int) : (ints l).set i (.int .i64 x) = ints (l.set i x) := by simp [ints, List.map_set]
theorem set_u8s (l : List Int) (i : Nat) (x : Int) : (u8s l).set i (.int .u8 x) = u8s (l.set i x) := by simp [u8s, List.map_set]
theorem set_bools (l : List Bool) (i : Nat) (x : Bool) : (bools l).set i (.bool x) = bools (l.set i x) := by simp only [bools, List.map_set]

/-- A store into one of the arrays: st. -/
theorem PM.setSt {w : World} {B pb : Nat} {D : Ad} {P : Pk} (h : PM w B pb D P) {i : Nat} (hi : i < P.st.length) :
    ∃ g y, D.s = some ⟨g, 0, none⟩ ∧ B ≤ g ∧ ¬ g = pb ∧ P.st[i]? = some y ∧ w.cell? ⟨g, i, none⟩ = some (.int .u8 y) ∧ w.frozen? ⟨g, i, none⟩ = false ∧
      ∀ x, PM (w.setCell ⟨g, i, none⟩ (.int .u8 x)) B pb D { P with st := P.st.set i x } := by
  have hb := h.box
  unfold Bx at hb
  obtain ⟨g, eg, hB, hlt, hfz, ⟨v, hv, hc⟩, hset⟩ := h.s.at hi
  simp [u8s] at hv
  obtain ⟨y, hy, rfl⟩ := hv
  have hne : ¬ g = pb := fun k => h.s.boxty hb (by decide) (k ▸ eg)
  refine ⟨g, y, eg, hB, hne, hy, hc, hfz, fun x => ?_⟩
  have hf := fr_setCell w g i (.int .u8 x)
  exact { h with
    box := by unfold Bx; rw [hf.block pb (heap_lt hb) (fun k => hne k.symm)]; simpa using hb
    s := by have := hset (.int .u8 x); rw [set_u8s] at this; simpa using this
    c := h.c.fr hf fun b e k => h.s.ty h.c (by decide) g eg (k ▸ e)
    h := h.h.fr hf fun b e k => h.s.ty h.h (by decide) g eg (k ▸ e)
    o := h.o.fr hf fun b e k => h.s.ty h.o (by decide) g eg (k ▸ e)
    a := h.a.fr hf fun b e k => h.s.ty h.a (by decide) g eg (k ▸ e)
    t := h.t.fr hf fun b e k => h.s.ty h.t (by decide) g eg (k ▸ e) }
theorem PM.setSec {w : World} {B pb : Nat} {D : Ad} {P : Pk} (h : PM w B pb D P) {i : Nat} (hi : i < P.sec.length) :
    ∃ g y, D.c = some ⟨g, 0, none⟩ ∧ B ≤ g ∧ ¬ g = pb ∧ P.sec[i]? = some y ∧ w.cell? ⟨g, i, none⟩ = some (.bool y) ∧ w.frozen? ⟨g, i, none⟩ = false ∧
      ∀ x, PM (w.setCell ⟨g, i, none⟩ (.bool x)) B pb D { P with sec := P.sec.set i x } := by
  have hb := h.box
  unfold Bx at hb
  obtain ⟨g, eg, hB, hlt, hfz, ⟨v, hv, hc⟩, hset⟩ := h.c.at hi
  rw [bools, List.getElem?_map, Option.map_eq_some_iff] at hv
  obtain ⟨y, hy, rfl⟩ := hv
  have hne : ¬ g = pb := fun k => h.c.boxty hb (by decide) (k ▸ eg)
  refine ⟨g, y, eg, hB, hne, hy, hc, hfz, fun x => ?_⟩
  have hf := fr_setCell w g i (.bool x)
  exact { h with
    box := by unfold Bx; rw [hf.block pb (heap_lt hb) (fun k => hne k.symm)]; simpa using hb
    s := h.s.fr hf fun b e k => h.c.ty h.s (by decide) g eg (k ▸ e)
    c := by have := hset (.bool x); rw [set_bools] at this; simpa using this
    h := h.h.fr hf fun b e k => h.c.ty h.h (by decide) g eg (k ▸ e)
    o := h.o.fr hf fun b e k => h.c.ty h.o (by decide) g eg (k ▸ e)
    a := h.a.fr hf fun b e k => h.c.ty h.a (by decide) g eg (k ▸ e)
    t := h.t.fr hf fun b e k => h.c.ty h.t (by decide) g eg (k ▸ e) }
theorem PM.setHeld {w : World} {B pb : Nat} {D : Ad} {P : Pk} (h : PM w B pb D P) {i : Nat} (hi : i < P.held.length) :
    ∃ g y, D.h = some ⟨g, 0, none⟩ ∧ B ≤ g ∧ ¬ g = pb ∧ P.held[i]? = some y ∧ w.cell? ⟨g, i, none⟩ = some (.int .i64 y) ∧ w.frozen? ⟨g, i, none⟩ = false ∧
      ∀ x, PM (w.setCell ⟨g, i, none⟩ (.int .i64 x)) B pb D { P with held := P.held.set i x } := by
  have hb := h.box
  unfold Bx at hb
  obtain ⟨g, eg, hB, hlt, hfz, ⟨v, hv, hc⟩, hset⟩ := h.h.at hi
  simp [ints] at hv
  obtain ⟨y, hy, rfl⟩ := hv
  have hne : ¬ g = pb := fun k => h.h.boxty hb (by decide) (k ▸ eg)
  refine ⟨g, y, eg, hB, hne, hy, hc, hfz, fun x => ?_⟩
  have hf := fr_setCell w g i (.int .i64 x)
  exact { h with
    box := by unfold Bx; rw [hf.block pb (heap_lt hb) (fun k => hne k.symm)]; simpa using hb
    s := h.s.fr hf fun b e k => h.h.ty h.s (by decide) g eg (k ▸ e)
    c := h.c.fr hf fun b e k => h.h.ty h.c (by decide) g eg (k ▸ e)
    h := by have := hset (.int .i64 x); rw [set_ints] at this; simpa using this
    o := h.o.fr hf fun b e k => h.ho g eg (k ▸ e)
    a := h.a.fr hf fun b e k => h.ha g eg (k ▸ e)
    t := h.t.fr hf fun b e k => h.ht g eg (k ▸ e) }
theorem PM.setOrd {w : World} {B pb : Nat} {D : Ad} {P : Pk} (h : PM w B pb D P) {i : Nat} (hi : i < P.ord.length) :
    ∃ g y, D.o = some ⟨g, 0, none⟩ ∧ B ≤ g ∧ ¬ g = pb ∧ P.ord[i]? = some y ∧ w.cell? ⟨g, i, none⟩ = some (.int .i64 y) ∧ w.frozen? ⟨g, i, none⟩ = false ∧
      ∀ x, PM (w.setCell ⟨g, i, none⟩ (.int .i64 x)) B pb D { P with ord := P.ord.set i x } := by
  have hb := h.box
  unfold Bx at hb
  obtain ⟨g, eg, hB, hlt, hfz, ⟨v, hv, hc⟩, hset⟩ := h.o.at hi
  simp [ints] at hv
  obtain ⟨y, hy, rfl⟩ := hv
  have hne : ¬ g = pb := fun k => h.o.boxty hb (by decide) (k ▸ eg)
  refine ⟨g, y, eg, hB, hne, hy, hc, hfz, fun x => ?_⟩
  have hf := fr_setCell w g i (.int .i64 x)
  exact { h with
    box := by unfold Bx; rw [hf.block pb (heap_lt hb) (fun k => hne k.symm)]; simpa using hb
    s := h.s.fr hf fun b e k => h.o.ty h.s (by decide) g eg (k ▸ e)
    c := h.c.fr hf fun b e k => h.o.ty h.c (by decide) g eg (k ▸ e)
    h := h.h.fr hf fun b e k => h.ho.symm g eg (k ▸ e)
    o := by have := hset (.int .i64 x); rw [set_ints] at this; simpa using this
    a := h.a.fr hf fun b e k => h.oa g eg (k ▸ e)
    t := h.t.fr hf fun b e k => h.ot g eg (k ▸ e) }
theorem PM.setAt {w : World} {B pb : Nat} {D : Ad} {P : Pk} (h : PM w B pb D P) {i : Nat} (hi : i < P.at_.length) :
    ∃ g y, D.a = some ⟨g, 0, none⟩ ∧ B ≤ g ∧ ¬ g = pb ∧ P.at_[i]? = some y ∧ w.cell? ⟨g, i, none⟩ = some (.int .i64 y) ∧ w.frozen? ⟨g, i, none⟩ = false ∧
      ∀ x, PM (w.setCell ⟨g, i, none⟩ (.int .i64 x)) B pb D { P with at_ := P.at_.set i x } := by
  have hb := h.box
  unfold Bx at hb
  obtain ⟨g, eg, hB, hlt, hfz, ⟨v, hv, hc⟩, hset⟩ := h.a.at hi
  simp [ints] at hv
  obtain ⟨y, hy, rfl⟩ := hv
  have hne : ¬ g = pb := fun k => h.a.boxty hb (by decide) (k ▸ eg)
  refine ⟨g, y, eg, hB, hne, hy, hc, hfz, fun x => ?_⟩
  have hf := fr_setCell w g i (.int .i64 x)
  exact { h with
    box := by unfold Bx; rw [hf.block pb (heap_lt hb) (fun k => hne k.symm)]; simpa using hb
    s := h.s.fr hf fun b e k => h.a.ty h.s (by decide) g eg (k ▸ e)
    c := h.c.fr hf fun b e k => h.a.ty h.c (by decide) g eg (k ▸ e)
    h := h.h.fr hf fun b e k => h.ha.symm g eg (k ▸ e)
    o := h.o.fr hf fun b e k => h.oa.symm g eg (k ▸ e)
    a := by have := hset (.int .i64 x); rw [set_ints] at this; simpa using this
    t := h.t.fr hf fun b e k => h.at_ g eg (k ▸ e) }
theorem PM.setStarts {w : World} {B pb : Nat} {D : Ad} {P : Pk} (h : PM w B pb D P) {i : Nat} (hi : i < P.starts.length) :
    ∃ g y, D.t = some ⟨g, 0, none⟩ ∧ B ≤ g ∧ ¬ g = pb ∧ P.starts[i]? = some y ∧ w.cell? ⟨g, i, none⟩ = some (.int .i64 y) ∧ w.frozen? ⟨g, i, none⟩ = false ∧
      ∀ x, PM (w.setCell ⟨g, i, none⟩ (.int .i64 x)) B pb D { P with starts := P.starts.set i x } := by
  have hb := h.box
  unfold Bx at hb
  obtain ⟨g, eg, hB, hlt, hfz, ⟨v, hv, hc⟩, hset⟩ := h.t.at hi
  simp [ints] at hv
  obtain ⟨y, hy, rfl⟩ := hv
  have hne : ¬ g = pb := fun k => h.t.boxty hb (by decide) (k ▸ eg)
  refine ⟨g, y, eg, hB, hne, hy, hc, hfz, fun x => ?_⟩
  have hf := fr_setCell w g i (.int .i64 x)
  exact { h with
    box := by unfold Bx; rw [hf.block pb (heap_lt hb) (fun k => hne k.symm)]; simpa using hb
    s := h.s.fr hf fun b e k => h.t.ty h.s (by decide) g eg (k ▸ e)
    c := h.c.fr hf fun b e k => h.t.ty h.c (by decide) g eg (k ▸ e)
    h := h.h.fr hf fun b e k => h.ht.symm g eg (k ▸ e)
    o := h.o.fr hf fun b e k => h.ot.symm g eg (k ▸ e)
    a := h.a.fr hf fun b e k => h.at_.symm g eg (k ▸ e)
    t := by have := hset (.int .i64 x); rw [set_ints] at this; simpa using this }

end Go.Proofs.Qxb6602173a
