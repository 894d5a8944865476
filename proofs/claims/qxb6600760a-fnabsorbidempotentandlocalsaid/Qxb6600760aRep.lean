import Derived.Test.Qxb6600760aSet
namespace Go.Proofs.Qxb6600760a
open Go.RowKit
set_option linter.unusedVariables false
set_option linter.unusedSimpArgs false

theorem Try.zero31 (w : World) : (zeroValue 31).run Try.prog w = .ok (.int .u64 0) w := by kernel_rfl
theorem Try.zero53 (w : World) : (zeroValue 53).run Try.prog w = .ok (.slice none 0 0) w := by kernel_rfl
theorem results_tmp5 {fn : Func} {a b c d e : Tmp} (h : fn.results = #[.tmp a, .tmp b, .tmp c, .tmp d, .tmp e]) (tmps : Array Value) (P : Program) (w : World) :
    (results fn tmps).run P w = .ok (.tuple #[tmps.getD a undef, tmps.getD b undef, tmps.getD c undef, tmps.getD d undef, tmps.getD e undef]) w := by
  simp [results, h]
theorem ClockAt.look1 {w : World} {B T cb m1 m2 N : Nat} {F : Int → Option SL} {st : Int → Ent} (h : ClockAt w B T cb m1 m2 N F st) {r : Int} (hr : Wf r) :
    (Instr.lookup 58 (.map (some m1)) (.int .u64 r) false).run Try.prog w = .ok (.int .u64 ((st r).run.getD 0)) w ∧
    (Instr.lookup 58 (.map (some m1)) (.int .u64 r) true).run Try.prog w = .ok (.tuple #[.int .u64 ((st r).run.getD 0), .bool (st r).run.isSome]) w := by
  have e1 := h.M1.look Try.underlying58 (Try.zero31 w) hr
  have e2 := h.M1.look_ok Try.underlying58 (Try.zero31 w) hr
  rw [e1, e2]
  cases (st r).run <;> simp
theorem ClockAt.look2 {w : World} {B T cb m1 m2 N : Nat} {F : Int → Option SL} {st : Int → Ent} (h : ClockAt w B T cb m1 m2 N F st) {r : Int} (hr : Wf r) :
    ∃ a n cap, (Instr.lookup 59 (.map (some m2)) (.int .u64 r) false).run Try.prog w = .ok (.slice a n cap) w ∧
      (Instr.lookup 59 (.map (some m2)) (.int .u64 r) true).run Try.prog w = .ok (.tuple #[.slice a n cap, .bool (st r).det.isSome]) w ∧
      RdS w a n ((st r).det.getD []) ∧ ((F r = none ∧ a = none ∧ n = 0 ∧ cap = 0) ∨ ∃ g, a = some ⟨g, 0, none⟩ ∧ F r = some ⟨g, n, cap⟩ ∧ OwnS w B T g n cap ((st r).det.getD [])) := by
  have e1 := h.M2.look Try.underlying59 (Try.zero53 w) hr
  have e2 := h.M2.look_ok Try.underlying59 (Try.zero53 w) hr
  cases hF : F r with
  | none =>
    have hn := h.rowN r hF
    refine ⟨none, 0, 0, ?_, ?_, ?_, .inl ⟨rfl, rfl, rfl, rfl⟩⟩
    · rw [e1, hF]; rfl
    · rw [e2, hF, hn]; rfl
    · rw [hn]; exact ⟨rfl, Nat.zero_le _, fun i hi => absurd hi (Nat.not_lt_zero _)⟩
  | some s =>
    obtain ⟨ss, hs, ho⟩ := h.rowS r s hF
    refine ⟨some ⟨s.g, 0, none⟩, s.n, s.cap, ?_, ?_, ?_, .inr ⟨s.g, rfl, rfl, ?_⟩⟩
    · rw [e1, hF]; rfl
    · rw [e2, hF, hs]; rfl
    · rw [hs]; exact ho.rd
    · rw [hs]; exact ho

set_option maxHeartbeats 1000000 in
theorem rep_any (w : World) (B T cb m1 m2 N : Nat) (F : Int → Option SL) (st : Int → Ent) (r : Int) (h : ClockAt w B T cb m1 m2 N F st) (hr : Wf r) :
    Calls Try.prog 28 #[.pointer (some ⟨cb, 0, none⟩), .int .u64 r] w fun e w' => ∃ a1 a2 n, e = .returned (.tuple #[.int .u64 ((st r).run.getD 0), .bool (st r).run.isSome, .slice a1 n n, .slice a2 n n, .bool (st r).det.isSome]) ∧
      Own w' w.heap.size 31 a1 n n (u64s (((st r).det.getD []).map (·.1))) ∧ Own w' w.heap.size 31 a2 n n (u64s (((st r).det.getD []).map (·.2))) ∧ Below w.heap.size w w' := by
  obtain ⟨g0, g1⟩ := h.cells
  obtain ⟨a, n, cap, _, l2, rd, _⟩ := h.look2 hr
  have l1 := (h.look1 hr).2
  have RD := hd rd
  obtain ⟨c, hc⟩ : ∃ c, (st r).run.getD 0 = c := ⟨_, rfl⟩
  obtain ⟨b1, hb1⟩ : ∃ c, (st r).run.isSome = c := ⟨_, rfl⟩
  obtain ⟨b2, hb2⟩ : ∃ c, (st r).det.isSome = c := ⟨_, rfl⟩
  obtain ⟨ss, hss⟩ : ∃ c, (st r).det.getD [] = c := ⟨_, rfl⟩
  rw [hc, hb1] at l1
  rw [hb2] at l2
  rw [hss] at RD
  rw [hc, hb1, hb2, hss]
  clear hc hb1 hb2 hss rd h
  go_enter Try.func28, Try.ntmps28
  go_wp2_with fail
  refine Calls.mono (unspan_any a n cap ss w RD.out) ?_
  rintro e w1 ⟨a1, a2, rfl, O1, O2, V⟩
  have Q1 := hd O1
  have Q2 := hd O2
  have Q3 := hd V
  clear O1 O2 V
  go_wp2_with fail
  (try simp only [Exit.inBlock, Exit.then])
  refine bodyPost_ret (results_tmp5 rfl _ _ _) rfl ?_
  exact ⟨a1, a2, n, rfl, Q1.out, Q2.out, Q3.out⟩
end Go.Proofs.Qxb6600760a
