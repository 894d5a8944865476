import Derived.Test.Qxb6600760aRep
namespace Go.Proofs.Qxb6600760a
open Go.RowKit
set_option linter.unusedVariables false
set_option linter.unusedSimpArgs false

theorem same_yes (a1 a2 : Option Addr) (n c1 c2 : Nat) (z : List Int) (w : World) (h1 : Rd w a1 n (u64s z)) (h2 : Rd w a2 n (u64s z)) :
    Calls Try.prog 17 #[.slice a1 n c1, .slice a2 n c2] w fun e w' => e = .returned (.bool true) ∧ ∃ q, w' = w.drewN q := by
  refine Calls.mono (same_any a1 a2 n n c1 c2 z z w h1 h2) ?_
  rintro e w' ⟨rfl, q, rfl⟩
  exact ⟨by simp, q, rfl⟩
theorem Own.len' {w : World} {B : Nat} {a : Option Addr} {n cap m : Nat} {ss : List (Int × Int)} {f : Int × Int → Int} (h : Own w B 31 a n cap (u64s (ss.map f))) (hm : ss.length = m) : n = m := by
  have := h.len
  rw [u64s_length, List.length_map] at this
  omega

set_option maxHeartbeats 1000000 in
theorem state_any (w : World) (B T cb m1 m2 N : Nat) (F : Int → Option SL) (st : Int → Ent) (r contig : Int) (a1 a2 : Option Addr) (n c1 c2 : Nat) (ss : List (Int × Int)) (h : ClockAt w B T cb m1 m2 N F st) (hr : Wf r) (hco : 0 ≤ contig)
    (h1 : Rd w a1 n (u64s (ss.map (·.1)))) (h2 : Rd w a2 n (u64s (ss.map (·.2)))) (hn : ss.length = n) (hst : st r = laid contig ss) :
    Calls Try.prog 32 #[.pointer (some ⟨cb, 0, none⟩), .int .u64 r, .int .u64 contig, .slice a1 n c1, .slice a2 n c2] w fun e w' => e = .returned (.bool true) ∧ Below w.heap.size w w' := by
  have K := rep_any w B T cb m1 m2 N F st r h hr
  have e1 : (st r).run.getD 0 = contig := by
    rw [hst]
    unfold laid
    by_cases e : contig = 0
    · simp [e]
    · simp [e]
  have e2 : (st r).run.isSome = decide (0 < contig) := by
    rw [hst]
    unfold laid
    by_cases e : contig = 0
    · simp [e]
    · simp [e]; omega
  have e3 : (st r).det.isSome = decide (0 < n) := by
    rw [hst]
    unfold laid
    by_cases e : ss.length = 0
    · simp [e]; omega
    · simp [e]; omega
  have e4 : (st r).det.getD [] = ss := by
    rw [hst]
    unfold laid
    by_cases e : ss.length = 0
    · simp [e]; exact List.length_eq_zero_iff.1 e
    · simp [e]
  rw [e1, e2, e3, e4] at K
  have HN := hd hn
  have H1 := hd h1
  have H2 := hd h2
  have KK := hd K
  have hsm := h1.2.1
  clear e1 e2 e3 e4 K hst h h1 h2 hn
  by_cases hc : 0 < contig
  · have HC0 := hd (decide_eq_true hc)
    have hcb : decide (0 < contig) = true := HC0.out
    by_cases hn0 : 0 < n
    · have HN0 := hd (decide_eq_true hn0)
      have hnb : decide ((0 : Int) < (n : Int)) = true := by simp; exact hn0
      rw [HC0.out, HN0.out] at KK
      go_enter Try.func32, Try.ntmps32
      go_wp2_with fail
      refine Calls.mono KK.out ?_
      rintro e w1 ⟨x1, x2, m, rfl, O1, O2, V⟩
      obtain rfl := O1.len' HN.out
      have Q1 := hd O1
      have Q2 := hd O2
      have Q3 := hd V
      clear O1 O2 V KK
      go_wp2_with fail
      refine Calls.mono (same_yes x1 a1 _ _ c1 _ w1 Q1.out.rd (H1.out.below Q3.out)) ?_
      rintro e w2 ⟨rfl, q, rfl⟩
      go_wp2_with fail
      refine Calls.mono (same_yes x2 a2 _ _ c2 _ (w1.drewN q) (Q2.out.rd.drewN q) ((H2.out.below Q3.out).drewN q)) ?_
      rintro e w2 ⟨rfl, q2, rfl⟩
      go_wp2_with fail
      go_ret
      exact ⟨rfl, below_drewN Q3.out (q + q2)⟩
    · have HN0 := hd (decide_eq_false hn0)
      have hnb : decide ((0 : Int) < (n : Int)) = false := by simp; omega
      rw [HC0.out, HN0.out] at KK
      go_enter Try.func32, Try.ntmps32
      go_wp2_with fail
      refine Calls.mono KK.out ?_
      rintro e w1 ⟨x1, x2, m, rfl, O1, O2, V⟩
      obtain rfl := O1.len' HN.out
      have Q1 := hd O1
      have Q2 := hd O2
      have Q3 := hd V
      clear O1 O2 V KK
      go_wp2_with fail
      refine Calls.mono (same_yes x1 a1 _ _ c1 _ w1 Q1.out.rd (H1.out.below Q3.out)) ?_
      rintro e w2 ⟨rfl, q, rfl⟩
      go_wp2_with fail
      refine Calls.mono (same_yes x2 a2 _ _ c2 _ (w1.drewN q) (Q2.out.rd.drewN q) ((H2.out.below Q3.out).drewN q)) ?_
      rintro e w2 ⟨rfl, q2, rfl⟩
      go_wp2_with fail
      go_ret
      exact ⟨rfl, below_drewN Q3.out (q + q2)⟩
  · have HC0 := hd (decide_eq_false hc)
    have hcb : decide (0 < contig) = false := HC0.out
    by_cases hn0 : 0 < n
    · have HN0 := hd (decide_eq_true hn0)
      have hnb : decide ((0 : Int) < (n : Int)) = true := by simp; exact hn0
      rw [HC0.out, HN0.out] at KK
      go_enter Try.func32, Try.ntmps32
      go_wp2_with fail
      refine Calls.mono KK.out ?_
      rintro e w1 ⟨x1, x2, m, rfl, O1, O2, V⟩
      obtain rfl := O1.len' HN.out
      have Q1 := hd O1
      have Q2 := hd O2
      have Q3 := hd V
      clear O1 O2 V KK
      go_wp2_with fail
      refine Calls.mono (same_yes x1 a1 _ _ c1 _ w1 Q1.out.rd (H1.out.below Q3.out)) ?_
      rintro e w2 ⟨rfl, q, rfl⟩
      go_wp2_with fail
      refine Calls.mono (same_yes x2 a2 _ _ c2 _ (w1.drewN q) (Q2.out.rd.drewN q) ((H2.out.below Q3.out).drewN q)) ?_
      rintro e w2 ⟨rfl, q2, rfl⟩
      go_wp2_with fail
      go_ret
      exact ⟨rfl, below_drewN Q3.out (q + q2)⟩
    · have HN0 := hd (decide_eq_false hn0)
      have hnb : decide ((0 : Int) < (n : Int)) = false := by simp; omega
      rw [HC0.out, HN0.out] at KK
      go_enter Try.func32, Try.ntmps32
      go_wp2_with fail
      refine Calls.mono KK.out ?_
      rintro e w1 ⟨x1, x2, m, rfl, O1, O2, V⟩
      obtain rfl := O1.len' HN.out
      have Q1 := hd O1
      have Q2 := hd O2
      have Q3 := hd V
      clear O1 O2 V KK
      go_wp2_with fail
      refine Calls.mono (same_yes x1 a1 _ _ c1 _ w1 Q1.out.rd (H1.out.below Q3.out)) ?_
      rintro e w2 ⟨rfl, q, rfl⟩
      go_wp2_with fail
      refine Calls.mono (same_yes x2 a2 _ _ c2 _ (w1.drewN q) (Q2.out.rd.drewN q) ((H2.out.below Q3.out).drewN q)) ?_
      rintro e w2 ⟨rfl, q2, rfl⟩
      go_wp2_with fail
      go_ret
      exact ⟨rfl, below_drewN Q3.out (q + q2)⟩
end Go.Proofs.Qxb6600760a
