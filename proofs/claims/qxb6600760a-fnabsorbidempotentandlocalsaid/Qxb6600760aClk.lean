import Derived.Test.Qxb6600760aDel
import Derived.Test.Qxb6600760aMap
namespace Go.Proofs.Qxb6600760a
open Go.RowKit
set_option linter.unusedVariables false
set_option linter.unusedSimpArgs false

/-- One replica's state: its run, its spans. -/
structure Ent where
  run : Option Int
  det : Option (List (Int × Int))
/-- Where a row of spans lies. -/
structure SL where
  g : Nat
  n : Nat
  cap : Nat
def SL.val (s : SL) : Value := .slice (some ⟨s.g, 0, none⟩) s.n s.cap

/-- The clock lies in w: its box at cb, its maps at m1 and m2, its rows: all from B on, below T. -/
structure ClockAt (w : World) (B T cb m1 m2 N : Nat) (F : Int → Option SL) (st : Int → Ent) : Prop where
  box : w.heap[cb]? = some (.cells #[.map (some m1), .map (some m2)] 61 (0, 0))
  b0 : B ≤ cb ∧ cb < T
  b1 : B ≤ m1 ∧ m1 < T
  b2 : B ≤ m2 ∧ m2 < T
  ne : m1 ≠ m2
  hT : T ≤ w.heap.size
  M1 : MapIs w m1 N (fun x => (st x).run.map (.int .u64))
  M2 : MapIs w m2 N (fun x => (F x).map SL.val)
  rowN : ∀ x, F x = none → (st x).det = none
  rowS : ∀ x s, F x = some s → ∃ ss, (st x).det = some ss ∧ OwnS w B T s.g s.n s.cap ss
  apart : ∀ x y s s', ¬ x = y → F x = some s → F y = some s' → s.g ≠ s'.g

theorem OwnS.wide {w : World} {B B' T T' g n cap : Nat} {ss : List (Int × Int)} (h : OwnS w B T g n cap ss) (hB : B' ≤ B) (hT : T ≤ T') : OwnS w B' T' g n cap ss := by
  obtain ⟨h1, h2, h3, h4, h5, h6⟩ := h
  exact ⟨h1, h2, h3, by omega, by omega, h6⟩
theorem MapIs.isMap {w : World} {b N : Nat} {f : Int → Option Value} (h : MapIs w b N f) : ∃ es c, w.heap[b]? = some (.map es c) := by
  obtain ⟨D, ⟨es, clock, hb, _⟩, _⟩ := h
  exact ⟨es, clock, hb⟩
theorem MapIs.congr {w : World} {b N : Nat} {f g : Int → Option Value} (h : MapIs w b N f) (e : ∀ x, f x = g x) : MapIs w b N g := by
  rw [← funext e]
  exact h
theorem OwnS.ne_map {w : World} {B T g n cap b N : Nat} {ss : List (Int × Int)} {f : Int → Option Value} (h : OwnS w B T g n cap ss) (hm : MapIs w b N f) : ¬ g = b := by
  rintro rfl
  obtain ⟨h1, h2, h3, h4, h5, rest, hg, hl⟩ := h
  obtain ⟨es, c, hb⟩ := hm.isMap
  rw [hg] at hb
  cases hb
theorem OwnS.ne_box {w : World} {B T g n cap cb m1 m2 : Nat} {ss : List (Int × Int)} (h : OwnS w B T g n cap ss) (hb : w.heap[cb]? = some (.cells #[.map (some m1), .map (some m2)] 61 (0, 0))) : ¬ g = cb := by
  rintro rfl
  obtain ⟨h1, h2, h3, h4, h5, rest, hg, hl⟩ := h
  rw [hg] at hb
  simp at hb
theorem box_ne_map {w : World} {cb m1 m2 b N : Nat} {f : Int → Option Value} (hb : w.heap[cb]? = some (.cells #[.map (some m1), .map (some m2)] 61 (0, 0))) (hm : MapIs w b N f) : ¬ cb = b := by
  rintro rfl
  obtain ⟨es, c, h⟩ := hm.isMap
  rw [hb] at h
  cases h

theorem ClockAt.fr {G : Nat → Prop} {w w' : World} {B T T' cb m1 m2 N : Nat} {F : Int → Option SL} {st : Int → Ent} (h : ClockAt w B T cb m1 m2 N F st) (hf : Fr G w w') (hG : ∀ k, B ≤ k → k < T → ¬ G k) (hT : T ≤ T') (hT' : T' ≤ w'.heap.size) : ClockAt w' B T' cb m1 m2 N F st where
  box := by rw [hf.block cb (heap_lt h.box) (hG cb h.b0.1 h.b0.2)]; exact h.box
  b0 := ⟨h.b0.1, by have := h.b0.2; omega⟩
  b1 := ⟨h.b1.1, by have := h.b1.2; omega⟩
  b2 := ⟨h.b2.1, by have := h.b2.2; omega⟩
  ne := h.ne
  hT := hT'
  M1 := h.M1.fr hf (hG m1 h.b1.1 h.b1.2)
  M2 := h.M2.fr hf (hG m2 h.b2.1 h.b2.2)
  rowN := h.rowN
  rowS := fun x s e => by
    obtain ⟨ss, e1, e2⟩ := h.rowS x s e
    have e3 := e2
    obtain ⟨_, _, _, p4, p5, _⟩ := e3
    exact ⟨ss, e1, (e2.fr hf (hG s.g p4 p5)).wide (Nat.le_refl _) hT⟩
  apart := h.apart
theorem ClockAt.below {w w' : World} {B T cb m1 m2 N : Nat} {F : Int → Option SL} {st : Int → Ent} (h : ClockAt w B T cb m1 m2 N F st) (hf : Below w.heap.size w w') : ClockAt w' B T cb m1 m2 N F st :=
  h.fr (G := fun _ => False) (Fr.all hf) (fun _ _ _ => id) (Nat.le_refl _) (Nat.le_trans h.hT hf.size)
theorem ClockAt.drewN {w : World} {B T cb m1 m2 N : Nat} {F : Int → Option SL} {st : Int → Ent} (h : ClockAt w B T cb m1 m2 N F st) (q : Nat) : ClockAt (w.drewN q) B T cb m1 m2 N F st :=
  h.below (below_drewN (Below.refl _ w) q)

/-- One store into the map of runs. -/
theorem ClockAt.turn1 {w w' : World} {B T cb m1 m2 N N' : Nat} {F : Int → Option SL} {st : Int → Ent} (h : ClockAt w B T cb m1 m2 N F st) {r : Int} {o : Option Int} (hN : N ≤ N') (hM : MapIs w' m1 N' (upd (fun x => (st x).run.map (.int .u64)) r (o.map (.int .u64)))) (hf : Fr (fun k => k = m1) w w') :
    ClockAt w' B T cb m1 m2 N' F (upd st r ⟨o, (st r).det⟩) where
  box := by rw [hf.block cb (heap_lt h.box) (box_ne_map h.box h.M1)]; exact h.box
  b0 := h.b0
  b1 := h.b1
  b2 := h.b2
  ne := h.ne
  hT := Nat.le_trans h.hT hf.size
  M1 := hM.congr fun x => by
    by_cases e : x = r
    · subst e; rw [upd_same, upd_same]
    · rw [upd_other _ _ e, upd_other _ _ e]
  M2 := (h.M2.fr hf (fun e => h.ne e.symm)).mono hN
  rowN := fun x e => by
    by_cases e' : x = r
    · subst e'; rw [upd_same]; exact h.rowN _ e
    · rw [upd_other _ _ e']; exact h.rowN _ e
  rowS := fun x s e => by
    obtain ⟨ss, e1, e2⟩ := h.rowS x s e
    refine ⟨ss, ?_, e2.fr hf (e2.ne_map h.M1)⟩
    by_cases e' : x = r
    · subst e'; rw [upd_same]; exact e1
    · rw [upd_other _ _ e']; exact e1
  apart := h.apart
theorem ClockAt.putRun {w : World} {B T cb m1 m2 N : Nat} {F : Int → Option SL} {st : Int → Ent} (h : ClockAt w B T cb m1 m2 N F st) (hN : N ≤ 1000) {r : Int} (hr : Wf r) (v : Int) :
    ∃ w', (Instr.mapUpdate 58 (.map (some m1)) (.int .u64 r) (.int .u64 v)).run Try.prog w = .ok () w' ∧ ClockAt w' B T cb m1 m2 (N + 1) F (upd st r ⟨some v, (st r).det⟩) ∧ Fr (fun k => k = m1) w w' := by
  obtain ⟨w', hrun, hM, hf⟩ := h.M1.put Try.underlying58 hN hr (.int .u64 v)
  exact ⟨w', hrun, h.turn1 (o := some v) (Nat.le_succ _) hM hf, hf⟩
theorem ClockAt.delRun {w : World} {B T cb m1 m2 N : Nat} {F : Int → Option SL} {st : Int → Ent} (h : ClockAt w B T cb m1 m2 N F st) {r : Int} (hr : Wf r) (ty : TypeId) :
    ∃ w', (Builtin.delete_ #[58, 37] ty #[.map (some m1), .int .u64 r]).run Try.prog w = .ok (.tuple #[]) w' ∧ ClockAt w' B T cb m1 m2 N F (upd st r ⟨none, (st r).det⟩) ∧ Fr (fun k => k = m1) w w' := by
  obtain ⟨w', hrun, hM, hf⟩ := h.M1.del Try.underlying58 hr ty
  exact ⟨w', hrun, h.turn1 (o := none) (Nat.le_refl _) hM hf, hf⟩
/-- One store into the map of spans. -/
theorem ClockAt.turn2 {w w' : World} {B T cb m1 m2 N N' : Nat} {F : Int → Option SL} {st : Int → Ent} (h : ClockAt w B T cb m1 m2 N F st) {r : Int} {o : Option SL} {d : Option (List (Int × Int))} (hN : N ≤ N') (hM : MapIs w' m2 N' (upd (fun x => (F x).map SL.val) r (o.map SL.val))) (hf : Fr (fun k => k = m2) w w')
    (hn : o = none → d = none) (hs : ∀ s, o = some s → (∃ ss, d = some ss ∧ OwnS w B T s.g s.n s.cap ss) ∧ ∀ y s', ¬ y = r → F y = some s' → s.g ≠ s'.g) :
    ClockAt w' B T cb m1 m2 N' (upd F r o) (upd st r ⟨(st r).run, d⟩) where
  box := by rw [hf.block cb (heap_lt h.box) (box_ne_map h.box h.M2)]; exact h.box
  b0 := h.b0
  b1 := h.b1
  b2 := h.b2
  ne := h.ne
  hT := Nat.le_trans h.hT hf.size
  M1 := ((h.M1.fr hf h.ne).mono hN).congr fun x => by
    by_cases e : x = r
    · subst e; rw [upd_same]
    · rw [upd_other _ _ e]
  M2 := hM.congr fun x => by
    by_cases e : x = r
    · subst e; rw [upd_same, upd_same]
    · rw [upd_other _ _ e, upd_other _ _ e]
  rowN := fun x e => by
    by_cases e' : x = r
    · subst e'; rw [upd_same] at e ⊢; exact hn e
    · rw [upd_other _ _ e'] at e ⊢; exact h.rowN _ e
  rowS := fun x s e => by
    by_cases e' : x = r
    · subst e'
      rw [upd_same] at e ⊢
      obtain ⟨ss, e1, e2⟩ := (hs s e).1
      exact ⟨ss, e1, e2.fr hf (e2.ne_map h.M2)⟩
    · rw [upd_other _ _ e'] at e ⊢
      obtain ⟨ss, e1, e2⟩ := h.rowS x s e
      exact ⟨ss, e1, e2.fr hf (e2.ne_map h.M2)⟩
  apart := fun x y s s' hxy e1 e2 => by
    by_cases ex : x = r
    · subst ex
      rw [upd_same] at e1
      rw [upd_other _ _ (fun e => hxy e.symm)] at e2
      exact (hs s e1).2 y s' (fun e => hxy e.symm) e2
    · rw [upd_other _ _ ex] at e1
      by_cases ey : y = r
      · subst ey
        rw [upd_same] at e2
        exact ((hs s' e2).2 x s ex e1).symm
      · rw [upd_other _ _ ey] at e2
        exact h.apart x y s s' hxy e1 e2
theorem ClockAt.putDet {w : World} {B T cb m1 m2 N : Nat} {F : Int → Option SL} {st : Int → Ent} (h : ClockAt w B T cb m1 m2 N F st) (hN : N ≤ 1000) {r : Int} (hr : Wf r) (s : SL) (ss : List (Int × Int)) (ho : OwnS w B T s.g s.n s.cap ss) (ha : ∀ y s', ¬ y = r → F y = some s' → s.g ≠ s'.g) :
    ∃ w', (Instr.mapUpdate 59 (.map (some m2)) (.int .u64 r) (.slice (some ⟨s.g, 0, none⟩) s.n s.cap)).run Try.prog w = .ok () w' ∧ ClockAt w' B T cb m1 m2 (N + 1) (upd F r (some s)) (upd st r ⟨(st r).run, some ss⟩) ∧ Fr (fun k => k = m2) w w' := by
  obtain ⟨w', hrun, hM, hf⟩ := h.M2.put Try.underlying59 hN hr s.val
  exact ⟨w', hrun, h.turn2 (o := some s) (Nat.le_succ _) hM hf (fun e => by cases e) (fun s1 e => by cases e; exact ⟨⟨ss, rfl, ho⟩, ha⟩), hf⟩
theorem ClockAt.delDet {w : World} {B T cb m1 m2 N : Nat} {F : Int → Option SL} {st : Int → Ent} (h : ClockAt w B T cb m1 m2 N F st) {r : Int} (hr : Wf r) (ty : TypeId) :
    ∃ w', (Builtin.delete_ #[59, 37] ty #[.map (some m2), .int .u64 r]).run Try.prog w = .ok (.tuple #[]) w' ∧ ClockAt w' B T cb m1 m2 N (upd F r none) (upd st r ⟨(st r).run, none⟩) ∧ Fr (fun k => k = m2) w w' := by
  obtain ⟨w', hrun, hM, hf⟩ := h.M2.del Try.underlying59 hr ty
  exact ⟨w', hrun, h.turn2 (o := none) (d := none) (Nat.le_refl _) hM hf (fun _ => rfl) (fun s1 e => by cases e), hf⟩
theorem ClockAt.cells {w : World} {B T cb m1 m2 N : Nat} {F : Int → Option SL} {st : Int → Ent} (h : ClockAt w B T cb m1 m2 N F st) : w.cell? ⟨cb, 0, none⟩ = some (.map (some m1)) ∧ w.cell? ⟨cb, 1, none⟩ = some (.map (some m2)) := by
  simp [World.cell?, h.box]
theorem upd_upd {α : Type} (f : Int → α) (x : Int) (a b : α) : upd (upd f x a) x b = upd f x b := by
  funext y
  unfold upd
  split <;> rfl
end Go.Proofs.Qxb6600760a
