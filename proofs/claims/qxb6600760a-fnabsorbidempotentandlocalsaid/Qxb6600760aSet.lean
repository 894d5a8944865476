import Derived.Test.Qxb6600760aClk
namespace Go.Proofs.Qxb6600760a
open Go.RowKit
set_option linter.unusedVariables false
set_option linter.unusedSimpArgs false

theorem below_alloc (w : World) (o : Obj) : Below w.heap.size w (w.alloc o) := (Below.refl _ w).alloc (Nat.le_refl _) o
theorem size_alloc (w : World) (o : Obj) : (w.alloc o).heap.size = w.heap.size + 1 := by rw [← World.alloc_eq]; simp
theorem new_any (w : World) : Calls Try.prog 21 #[] w fun e w' => ∃ cb m1 m2, e = .returned (.pointer (some ⟨cb, 0, none⟩)) ∧ ClockAt w' w.heap.size w'.heap.size cb m1 m2 0 (fun _ => none) (fun _ => ⟨none, none⟩) ∧ Below w.heap.size w w' := by
  have hmm := @run_makeMap Try.prog
  go_enter Try.func21, Try.ntmps21
  go_wp2
  go_ret
  refine ⟨_, w.heap.size, w.heap.size + 1, rfl, ?_, bl (bl (below_alloc w _) (below_alloc _ _)) (below_alloc _ _)⟩
  have s1 := size_alloc w (Obj.map #[] 0)
  have s2 := size_alloc (w.alloc (Obj.map #[] 0)) (Obj.map #[] 0)
  have s3 := size_alloc ((w.alloc (Obj.map #[] 0)).alloc (Obj.map #[] 0)) (Obj.cells #[Value.map (some w.heap.size), Value.map (some (w.heap.size + 1))] 61)
  refine ⟨?_, by omega, by omega, by omega, by omega, Nat.le_refl _, ?_, ?_, fun _ _ => rfl, fun x s e => (by cases e), fun x y s s' _ e => (by cases e)⟩
  · exact (MapKept.heap_alloc _ _).1 ▸ (by rw [s2, s1])
  · exact (MapIs.made w).fr (F := fun _ => False) (Fr.all (bl (below_alloc _ _) (below_alloc _ _))) id
  · have := (MapIs.made (w.alloc (Obj.map #[] 0))).fr (F := fun _ => False) (Fr.all (below_alloc _ (Obj.cells #[Value.map (some w.heap.size), Value.map (some (w.heap.size + 1))] 61))) id
    rw [s1] at this
    exact this

/-- What ZZSetReplica lays. -/
def laid (contig : Int) (ss : List (Int × Int)) : Ent := ⟨if contig = 0 then none else some contig, if ss.length = 0 then none else some ss⟩
theorem fr_below1 {w w' : World} {B k0 : Nat} (h : Fr (fun k => k = k0) w w') (hB : B ≤ k0) (hw : B ≤ w.heap.size) : Below B w w' := h.below fun k hk => ⟨by omega, fun e => by have e' : k = k0 := e; omega⟩
set_option maxHeartbeats 1000000 in
theorem set_any (w : World) (B T cb m1 m2 N : Nat) (F : Int → Option SL) (st : Int → Ent) (r contig : Int) (a1 a2 : Option Addr) (n c1 c2 : Nat) (ss : List (Int × Int)) (h : ClockAt w B T cb m1 m2 N F st) (hN : N ≤ 900) (hr : Wf r)
    (h1 : Rd w a1 n (u64s (ss.map (·.1)))) (h2 : Rd w a2 n (u64s (ss.map (·.2)))) (hn : ss.length = n) (hb1 : ∀ b off, a1 = some ⟨b, off, none⟩ → b < B) (hb2 : ∀ b off, a2 = some ⟨b, off, none⟩ → b < B) :
    Calls Try.prog 22 #[.pointer (some ⟨cb, 0, none⟩), .int .u64 r, .int .u64 contig, .slice a1 n c1, .slice a2 n c2] w fun e w' => e = .returned (.tuple #[]) ∧ (∃ F', ClockAt w' B w'.heap.size cb m1 m2 (N + 2) F' (upd st r (laid contig ss))) ∧ Below B w w' := by
  have hBw : B ≤ w.heap.size := by have := h.hT; have := h.b1; omega
  have HN := hd hn
  have hsm := h1.2.1
  have HST : ∀ o d, Hid (upd (upd st r ⟨o, (st r).det⟩) r ⟨((upd st r ⟨o, (st r).det⟩) r).run, d⟩ = upd st r ⟨o, d⟩) := fun o d => by
    show _ = _
    rw [upd_upd, upd_same]
  obtain ⟨g0, g1⟩ := h.cells
  by_cases hc : contig = 0
  · have hcb : (contig == 0) = true := beq_iff_eq.2 hc
    have HC := hd hc
    clear hc
    by_cases hn0 : n = 0
    · subst hn0
      obtain ⟨w1, hrun1, C1, f1⟩ := h.delRun hr 0
      have C1' := hd (show ClockAt w1 B T cb m1 m2 (N + 1) F (upd st r ⟨none, (st r).det⟩) from { C1 with M1 := C1.M1.mono (Nat.le_succ _), M2 := C1.M2.mono (Nat.le_succ _) })
      have B1 := hd (fr_below1 f1 h.b1.1 hBw)
      have hBw1 : B ≤ w1.heap.size := Nat.le_trans hBw f1.size
      have R1 := hd (h1.fr f1 fun b off e e' => by have := hb1 b off e; have := h.b1.1; have e'' : b = m1 := e'; omega)
      have R2 := hd (h2.fr f1 fun b off e e' => by have := hb2 b off e; have := h.b1.1; have e'' : b = m1 := e'; omega)
      have hsz := C1.hT
      clear C1 f1 h1 h2
      go_enter Try.func22, Try.ntmps22
      go_wp2_with fail
      refine Calls.mono (spans_any a1 a2 _ c1 c2 ss w1 R1.out R2.out HN.out) ?_
      rintro e w2 ⟨rfl, O2, b2⟩
      have C2 := C1'.out.fr (G := fun _ => False) (T' := w2.heap.size) (Fr.all b2) (fun _ _ _ => id) (Nat.le_trans hsz b2.size) (Nat.le_refl _)
      obtain ⟨g0', g1'⟩ := C2.cells
      have B2 := hd (B1.out.trans (b2.mono hBw1))
      clear C1' R1 R2 B1
      obtain ⟨w3, hrun3, C3, f3⟩ := C2.delDet hr 0
      have hT3 := C3.hT
      have C4 : Hid (ClockAt w3 B w3.heap.size cb m1 m2 (N + 2) (upd F r none) (upd st r (laid contig ss))) := by
        have e1 : laid contig ss = ⟨none, none⟩ := by unfold laid; rw [if_pos HC.out, if_pos HN.out]
        have := C3.fr (G := fun _ => False) (T' := w3.heap.size) (Fr.refl _ w3) (fun _ _ _ => id) hT3 (Nat.le_refl _)
        rw [(HST none none).out] at this
        show ClockAt _ _ _ _ _ _ _ _ _
        rw [e1]
        exact { this with M1 := this.M1.mono (Nat.le_succ _), M2 := this.M2.mono (Nat.le_succ _) }
      have B3 := hd (B2.out.trans (fr_below1 f3 C2.b2.1 (Nat.le_trans hBw1 b2.size)))
      clear C2 C3 f3 O2 b2 B2 h
      go_wp2
      refine bodyPost_end (results_none rfl _ _ _) rfl ?_
      exact ⟨rfl, ⟨_, C4.out⟩, B3.out⟩
    · have hnb : ((n : Int) == 0) = false := by simp; exact hn0
      have HN0 := hd hn0
      clear hn0
      obtain ⟨w1, hrun1, C1, f1⟩ := h.delRun hr 0
      have C1' := hd (show ClockAt w1 B T cb m1 m2 (N + 1) F (upd st r ⟨none, (st r).det⟩) from { C1 with M1 := C1.M1.mono (Nat.le_succ _), M2 := C1.M2.mono (Nat.le_succ _) })
      have B1 := hd (fr_below1 f1 h.b1.1 hBw)
      have hBw1 : B ≤ w1.heap.size := Nat.le_trans hBw f1.size
      have R1 := hd (h1.fr f1 fun b off e e' => by have := hb1 b off e; have := h.b1.1; have e'' : b = m1 := e'; omega)
      have R2 := hd (h2.fr f1 fun b off e e' => by have := hb2 b off e; have := h.b1.1; have e'' : b = m1 := e'; omega)
      have hsz := C1.hT
      clear C1 f1 h1 h2
      go_enter Try.func22, Try.ntmps22
      go_wp2_with fail
      refine Calls.mono (spans_any a1 a2 _ c1 c2 ss w1 R1.out R2.out HN.out) ?_
      rintro e w2 ⟨rfl, O2, b2⟩
      have C2 := C1'.out.fr (G := fun _ => False) (T' := w2.heap.size) (Fr.all b2) (fun _ _ _ => id) (Nat.le_trans hsz b2.size) (Nat.le_refl _)
      obtain ⟨g0', g1'⟩ := C2.cells
      have B2 := hd (B1.out.trans (b2.mono hBw1))
      have C1'' := C1'.out
      clear C1' R1 R2 B1
      obtain ⟨w3, hrun3, C3, f3⟩ := C2.putDet (by omega) hr ⟨w1.heap.size, n, n⟩ ss (O2.wide hBw1 (Nat.le_refl _)) (fun y s' _ e => by
        obtain ⟨ss'', _, o''⟩ := C1''.rowS y s' e
        have := o''.lt
        exact Nat.ne_of_gt this)
      have hT3 := C3.hT
      clear C1''
      have C4 : Hid (ClockAt w3 B w3.heap.size cb m1 m2 (N + 2) (upd F r (some ⟨w1.heap.size, n, n⟩)) (upd st r (laid contig ss))) := by
        have e1 : laid contig ss = ⟨none, some ss⟩ := by unfold laid; rw [if_pos HC.out, if_neg (by rw [HN.out]; exact HN0.out)]
        have := C3.fr (G := fun _ => False) (T' := w3.heap.size) (Fr.refl _ w3) (fun _ _ _ => id) hT3 (Nat.le_refl _)
        rw [(HST none (some ss)).out] at this
        show ClockAt _ _ _ _ _ _ _ _ _
        rw [e1]
        exact this
      have B3 := hd (B2.out.trans (fr_below1 f3 C2.b2.1 (Nat.le_trans hBw1 b2.size)))
      clear C2 C3 f3 O2 b2 B2 h
      go_wp2
      refine bodyPost_end (results_none rfl _ _ _) rfl ?_
      exact ⟨rfl, ⟨_, C4.out⟩, B3.out⟩
  · have hcb : (contig == 0) = false := beq_eq_false_iff_ne.2 hc
    have HC := hd hc
    clear hc
    by_cases hn0 : n = 0
    · subst hn0
      obtain ⟨w1, hrun1, C1, f1⟩ := h.putRun (by omega) hr contig
      have C1' := hd C1
      have B1 := hd (fr_below1 f1 h.b1.1 hBw)
      have hBw1 : B ≤ w1.heap.size := Nat.le_trans hBw f1.size
      have R1 := hd (h1.fr f1 fun b off e e' => by have := hb1 b off e; have := h.b1.1; have e'' : b = m1 := e'; omega)
      have R2 := hd (h2.fr f1 fun b off e e' => by have := hb2 b off e; have := h.b1.1; have e'' : b = m1 := e'; omega)
      have hsz := C1.hT
      clear C1 f1 h1 h2
      go_enter Try.func22, Try.ntmps22
      go_wp2_with fail
      refine Calls.mono (spans_any a1 a2 _ c1 c2 ss w1 R1.out R2.out HN.out) ?_
      rintro e w2 ⟨rfl, O2, b2⟩
      have C2 := C1'.out.fr (G := fun _ => False) (T' := w2.heap.size) (Fr.all b2) (fun _ _ _ => id) (Nat.le_trans hsz b2.size) (Nat.le_refl _)
      obtain ⟨g0', g1'⟩ := C2.cells
      have B2 := hd (B1.out.trans (b2.mono hBw1))
      clear C1' R1 R2 B1
      obtain ⟨w3, hrun3, C3, f3⟩ := C2.delDet hr 0
      have hT3 := C3.hT
      have C4 : Hid (ClockAt w3 B w3.heap.size cb m1 m2 (N + 2) (upd F r none) (upd st r (laid contig ss))) := by
        have e1 : laid contig ss = ⟨(some contig), none⟩ := by unfold laid; rw [if_neg HC.out, if_pos HN.out]
        have := C3.fr (G := fun _ => False) (T' := w3.heap.size) (Fr.refl _ w3) (fun _ _ _ => id) hT3 (Nat.le_refl _)
        rw [(HST (some contig) none).out] at this
        show ClockAt _ _ _ _ _ _ _ _ _
        rw [e1]
        exact { this with M1 := this.M1.mono (Nat.le_succ _), M2 := this.M2.mono (Nat.le_succ _) }
      have B3 := hd (B2.out.trans (fr_below1 f3 C2.b2.1 (Nat.le_trans hBw1 b2.size)))
      clear C2 C3 f3 O2 b2 B2 h
      go_wp2
      refine bodyPost_end (results_none rfl _ _ _) rfl ?_
      exact ⟨rfl, ⟨_, C4.out⟩, B3.out⟩
    · have hnb : ((n : Int) == 0) = false := by simp; exact hn0
      have HN0 := hd hn0
      clear hn0
      obtain ⟨w1, hrun1, C1, f1⟩ := h.putRun (by omega) hr contig
      have C1' := hd C1
      have B1 := hd (fr_below1 f1 h.b1.1 hBw)
      have hBw1 : B ≤ w1.heap.size := Nat.le_trans hBw f1.size
      have R1 := hd (h1.fr f1 fun b off e e' => by have := hb1 b off e; have := h.b1.1; have e'' : b = m1 := e'; omega)
      have R2 := hd (h2.fr f1 fun b off e e' => by have := hb2 b off e; have := h.b1.1; have e'' : b = m1 := e'; omega)
      have hsz := C1.hT
      clear C1 f1 h1 h2
      go_enter Try.func22, Try.ntmps22
      go_wp2_with fail
      refine Calls.mono (spans_any a1 a2 _ c1 c2 ss w1 R1.out R2.out HN.out) ?_
      rintro e w2 ⟨rfl, O2, b2⟩
      have C2 := C1'.out.fr (G := fun _ => False) (T' := w2.heap.size) (Fr.all b2) (fun _ _ _ => id) (Nat.le_trans hsz b2.size) (Nat.le_refl _)
      obtain ⟨g0', g1'⟩ := C2.cells
      have B2 := hd (B1.out.trans (b2.mono hBw1))
      have C1'' := C1'.out
      clear C1' R1 R2 B1
      obtain ⟨w3, hrun3, C3, f3⟩ := C2.putDet (by omega) hr ⟨w1.heap.size, n, n⟩ ss (O2.wide hBw1 (Nat.le_refl _)) (fun y s' _ e => by
        obtain ⟨ss'', _, o''⟩ := C1''.rowS y s' e
        have := o''.lt
        exact Nat.ne_of_gt this)
      have hT3 := C3.hT
      clear C1''
      have C4 : Hid (ClockAt w3 B w3.heap.size cb m1 m2 (N + 2) (upd F r (some ⟨w1.heap.size, n, n⟩)) (upd st r (laid contig ss))) := by
        have e1 : laid contig ss = ⟨(some contig), some ss⟩ := by unfold laid; rw [if_neg HC.out, if_neg (by rw [HN.out]; exact HN0.out)]
        have := C3.fr (G := fun _ => False) (T' := w3.heap.size) (Fr.refl _ w3) (fun _ _ _ => id) hT3 (Nat.le_refl _)
        rw [(HST (some contig) (some ss)).out] at this
        show ClockAt _ _ _ _ _ _ _ _ _
        rw [e1]
        exact this
      have B3 := hd (B2.out.trans (fr_below1 f3 C2.b2.1 (Nat.le_trans hBw1 b2.size)))
      clear C2 C3 f3 O2 b2 B2 h
      go_wp2
      refine bodyPost_end (results_none rfl _ _ _) rfl ?_
      exact ⟨rfl, ⟨_, C4.out⟩, B3.out⟩
end Go.Proofs.Qxb6600760a
