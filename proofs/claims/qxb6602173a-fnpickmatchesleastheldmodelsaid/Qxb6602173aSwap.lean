import Derived.Test.Qxb6602173aPm
import Derived.BigRegion
namespace Go.Proofs.Qxb6602173a
open Go.RowKit
set_option linter.unusedVariables false
set_option linter.unusedSimpArgs false

theorem drewN_drew' (w : World) (q : Nat) : (w.drewN q).drew = w.drewN (q + 1) := by simp
theorem setCell_drewN' (w : World) (q : Nat) (a : Addr) (v : Value) : (w.drewN q).setCell a v = (w.setCell a v).drewN q := rfl

set_option maxHeartbeats 1000000 in
theorem swap_diff (pb gO gA l cO n cA : Nat) (a b i j : Int) (w : World) (ha0 : 0 ≤ a) (ha1 : a < l) (hb0 : 0 ≤ b) (hb1 : b < l) (hi0 : 0 ≤ i) (hi1 : i < n) (hj0 : 0 ≤ j) (hj1 : j < n) (hl : l ≤ 16777216) (hn : n ≤ 16777216)
    (hab : ¬ a.toNat = b.toNat) (hij : ¬ i.toNat = j.toNat) (n1 : ¬ gO = pb) (n2 : ¬ gA = pb) (n3 : ¬ gO = gA) (u v : Value)
    (h6 : w.cell? ⟨pb, 6, none⟩ = some (.slice (some ⟨gO, 0, none⟩) l cO)) (h7 : w.cell? ⟨pb, 7, none⟩ = some (.slice (some ⟨gA, 0, none⟩) n cA))
    (ca : w.cell? ⟨gO, a.toNat, none⟩ = some (.int .i64 i)) (cb : w.cell? ⟨gO, b.toNat, none⟩ = some (.int .i64 j)) (fa : w.frozen? ⟨gO, a.toNat, none⟩ = false) (fb : w.frozen? ⟨gO, b.toNat, none⟩ = false)
    (ci : w.cell? ⟨gA, i.toNat, none⟩ = some u) (cj : w.cell? ⟨gA, j.toNat, none⟩ = some v) (fi : w.frozen? ⟨gA, i.toNat, none⟩ = false) (fj : w.frozen? ⟨gA, j.toNat, none⟩ = false) :
    Calls Try.prog 44 #[.pointer (some ⟨pb, 0, none⟩), .int .i64 a, .int .i64 b] w fun e w' => e = .returned (.tuple #[]) ∧
      ∃ q, w' = ((((w.setCell ⟨gO, a.toNat, none⟩ (.int .i64 j)).setCell ⟨gO, b.toNat, none⟩ (.int .i64 i)).setCell ⟨gA, i.toNat, none⟩ (.int .i64 b)).setCell ⟨gA, j.toNat, none⟩ (.int .i64 a)).drewN q := by
  have m1 : ¬ pb = gO := fun h => n1 h.symm
  have m2 : ¬ pb = gA := fun h => n2 h.symm
  have m3 : ¬ gA = gO := fun h => n3 h.symm
  have hba : ¬ b.toNat = a.toNat := fun h => hab h.symm
  have hji : ¬ j.toNat = i.toNat := fun h => hij h.symm
  go_enter Try.func44, Try.ntmps44
  go_wp2
  go_quiet (fail)
  go_wp2
  go_region
  go_wp2
  go_region
  go_wp2
  go_end0
  refine ⟨rfl, ?_⟩
  exact ⟨_, by simp only [setCell_drewN', drewN_drew']; rfl⟩

set_option maxHeartbeats 1000000 in
theorem swap_same (pb gO gA l cO n cA : Nat) (a i : Int) (w : World) (ha0 : 0 ≤ a) (ha1 : a < l) (hi0 : 0 ≤ i) (hi1 : i < n) (hl : l ≤ 16777216) (hn : n ≤ 16777216)
    (n1 : ¬ gO = pb) (n2 : ¬ gA = pb) (n3 : ¬ gO = gA) (u : Value)
    (h6 : w.cell? ⟨pb, 6, none⟩ = some (.slice (some ⟨gO, 0, none⟩) l cO)) (h7 : w.cell? ⟨pb, 7, none⟩ = some (.slice (some ⟨gA, 0, none⟩) n cA))
    (ca : w.cell? ⟨gO, a.toNat, none⟩ = some (.int .i64 i)) (fa : w.frozen? ⟨gO, a.toNat, none⟩ = false)
    (ci : w.cell? ⟨gA, i.toNat, none⟩ = some u) (fi : w.frozen? ⟨gA, i.toNat, none⟩ = false) :
    Calls Try.prog 44 #[.pointer (some ⟨pb, 0, none⟩), .int .i64 a, .int .i64 a] w fun e w' => e = .returned (.tuple #[]) ∧
      ∃ q, w' = ((((w.setCell ⟨gO, a.toNat, none⟩ (.int .i64 i)).setCell ⟨gO, a.toNat, none⟩ (.int .i64 i)).setCell ⟨gA, i.toNat, none⟩ (.int .i64 a)).setCell ⟨gA, i.toNat, none⟩ (.int .i64 a)).drewN q := by
  have m1 : ¬ pb = gO := fun h => n1 h.symm
  have m2 : ¬ pb = gA := fun h => n2 h.symm
  have m3 : ¬ gA = gO := fun h => n3 h.symm
  go_enter Try.func44, Try.ntmps44
  go_wp2
  go_quiet (fail)
  go_wp2
  go_region
  go_wp2
  go_region
  go_wp2
  go_end0
  refine ⟨rfl, ?_⟩
  exact ⟨_, by simp only [setCell_drewN', drewN_drew']; rfl⟩

/-- swap, on the fields. -/
def swapF (P : Pk) (a b : Int) : Pk :=
  { P with ord := (P.ord.set a.toNat (P.ord.getD b.toNat 0)).set b.toNat (P.ord.getD a.toNat 0), at_ := (P.at_.set (P.ord.getD a.toNat 0).toNat b).set (P.ord.getD b.toNat 0).toNat a }
def swapFr (D : Ad) (k : Nat) : Prop := D.o = some ⟨k, 0, none⟩ ∨ D.a = some ⟨k, 0, none⟩

theorem swap_pm (w : World) (B pb : Nat) (D : Ad) (P : Pk) (a b : Int) (hM : PM w B pb D P) (ha0 : 0 ≤ a) (ha1 : a < P.ord.length) (hb0 : 0 ≤ b) (hb1 : b < P.ord.length)
    (hin : ∀ x ∈ P.ord, 0 ≤ x ∧ x < P.at_.length) (hd : a ≠ b → P.ord[a.toNat]? ≠ P.ord[b.toNat]?) :
    Calls Try.prog 44 #[.pointer (some ⟨pb, 0, none⟩), .int .i64 a, .int .i64 b] w fun e w' => e = .returned (.tuple #[]) ∧ PM w' B pb D (swapF P a b) ∧ Fr (swapFr D) w w' := by
  obtain ⟨c0, c1, c2, c3, c4, c5, c6, c7, c8⟩ := hM.box.cells
  have hl := hM.o.small
  have hn := hM.a.small
  obtain ⟨gO, i, eO, _, n1, hi, ca, fa, s1⟩ := hM.setOrd (i := a.toNat) (by omega)
  obtain ⟨gO', j, eO', _, _, hj, cb, fb, _⟩ := hM.setOrd (i := b.toNat) (by omega)
  rw [eO] at eO'
  cases eO'
  have ei := hin i (List.mem_of_getElem? hi)
  have ej := hin j (List.mem_of_getElem? hj)
  obtain ⟨gA, u, eA, _, n2, hu, ci, fi, _⟩ := hM.setAt (i := i.toNat) (by omega)
  obtain ⟨gA', v, eA', _, _, hv, cj, fj, _⟩ := hM.setAt (i := j.toNat) (by omega)
  rw [eA] at eA'
  cases eA'
  have n3 : ¬ gO = gA := fun h => hM.oa gO eO (h ▸ eA)
  have gi : P.ord.getD a.toNat 0 = i := by rw [List.getD, hi]; rfl
  have gj : P.ord.getD b.toNat 0 = j := by rw [List.getD, hj]; rfl
  -- the four stores, at the fields
  have m1 := s1 j
  obtain ⟨g2, _, e2, _, _, _, _, _, s2⟩ := m1.setOrd (i := b.toNat) (by simp; omega)
  rw [eO] at e2
  cases e2
  have m2 := s2 i
  obtain ⟨g3, _, e3, _, _, _, _, _, s3⟩ := m2.setAt (i := i.toNat) (by simp; omega)
  rw [eA] at e3
  cases e3
  have m3 := s3 b
  obtain ⟨g4, _, e4, _, _, _, _, _, s4⟩ := m3.setAt (i := j.toNat) (by simp; omega)
  rw [eA] at e4
  cases e4
  have m4 := s4 a
  have eF : swapF P a b = { P with ord := (P.ord.set a.toNat j).set b.toNat i, at_ := (P.at_.set i.toNat b).set j.toNat a } := by unfold swapF; rw [gi, gj]
  have hF : Fr (swapFr D) w ((((w.setCell ⟨gO, a.toNat, none⟩ (.int .i64 j)).setCell ⟨gO, b.toNat, none⟩ (.int .i64 i)).setCell ⟨gA, i.toNat, none⟩ (.int .i64 b)).setCell ⟨gA, j.toNat, none⟩ (.int .i64 a)) := by
    have fO : ∀ (W : World) (o : Nat) (x : Value), Fr (swapFr D) W (W.setCell ⟨gO, o, none⟩ x) := fun W o x => (fr_setCell W gO o x).mono fun k _ hk => .inl (hk ▸ eO)
    have fA : ∀ (W : World) (o : Nat) (x : Value), Fr (swapFr D) W (W.setCell ⟨gA, o, none⟩ x) := fun W o x => (fr_setCell W gA o x).mono fun k _ hk => .inr (hk ▸ eA)
    exact (((fO _ _ _).trans (fO _ _ _)).trans (fA _ _ _)).trans (fA _ _ _)
  rw [eO] at c6
  rw [eA] at c7
  rw [eF]
  by_cases hab : a = b
  · subst hab
    rw [hi] at hj
    cases hj
    refine (swap_same pb gO gA P.ord.length D.co P.at_.length D.ca a i w ha0 ha1 ei.1 ei.2 hl hn n1 n2 n3 _ c6 c7 ca fa ci fi).mono ?_
    rintro e w' ⟨rfl, q, rfl⟩
    exact ⟨rfl, m4.drewN q, hF.trans (Fr.drewN _ _ q)⟩
  · have hij : ¬ i.toNat = j.toNat := by
      intro h
      apply hd hab
      rw [hi, hj]
      have : i = j := by omega
      rw [this]
    refine (swap_diff pb gO gA P.ord.length D.co P.at_.length D.ca a b i j w ha0 ha1 hb0 hb1 ei.1 ei.2 ej.1 ej.2 hl hn (by omega) hij n1 n2 n3 _ _ c6 c7 ca cb fa fb ci cj fi fj).mono ?_
    rintro e w' ⟨rfl, q, rfl⟩
    exact ⟨rfl, m4.drewN q, hF.trans (Fr.drewN _ _ q)⟩
end Go.Proofs.Qxb6602173a
