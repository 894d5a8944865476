import Derived.Test.Qxb6602173aGet
namespace Go.Proofs.Qxb6602173a
open Go.RowKit
set_option linter.unusedVariables false
set_option linter.unusedSimpArgs false

theorem cell_atg {w w1 : World} (h : Below w.heap.size w w1) {p o : Nat} {v : Value} (hc : w.cell? ⟨p, o, none⟩ = some v) : w1.cell? ⟨p, o, none⟩ = some v := (h.cell (p := ⟨p, o, none⟩) (cell_lt hc)).trans hc

/-- pkEnd. -/
theorem pkEnd_any (x : Int) (aT : Option Addr) (l k cT : Nat) (starts : List Int) (w : World) (hx0 : 0 ≤ x) (hx1 : x ≤ 100000000) (hT : Rd w aT k (ints starts)) :
    Calls Try.prog 22 #[.slice aT k cT, .int .i64 (l : Int), .int .i64 x] w fun e w' => e = .returned (.int .i64 (endF starts l x)) ∧ w' = w := by
  have hs := hT.small
  have HL : Hid (starts.length = k) := by have := hT.len; rwa [ints_length] at this
  have H := hdg hT
  clear hT
  by_cases hlt : x + 1 < k
  · obtain ⟨b, o, y, rfl, e1, g1⟩ := H.out.int (i := (x + 1).toNat) (by omega)
    have E1 := hdg e1
    clear e1
    have hp : 0 ≤ x + 1 := by omega
    go_enter Try.func22, Try.ntmps22
    go_wp2
    go_ret
    exact ⟨ret_int (by unfold endF; rw [HL.out, if_pos hlt, List.getD, E1.out]; rfl), rfl⟩
  · have hlt' : decide (x + 1 < (k : Int)) = false := by simp; omega
    go_enter Try.func22, Try.ntmps22
    go_wp2
    go_ret
    exact ⟨ret_int (by unfold endF; rw [HL.out, if_neg (by omega)]), rfl⟩

/-- pkHas. -/
theorem pkHas_any (x : Int) (aB : Option Addr) (nb cB : Nat) (has : List Int) (w : World) (hx0 : 0 ≤ x) (hx1 : x < 8 * nb) (hB : Rd w aB nb (u8s has)) :
    Calls Try.prog 17 #[.slice aB nb cB, .int .i64 x] w fun e w' => e = .returned (.bool (hasB has x)) ∧ ∃ n, w' = w.drewN n := by
  have hs := hB.small
  obtain ⟨b, o, y, rfl, e1, g1⟩ := hB.u8 (i := (x / 8).toNat) (by omega)
  have E1 := hdg e1
  clear e1 hB
  have hq0 : 0 ≤ x / 8 := by omega
  have hq1 : x / 8 < (nb : Int) := by omega
  have hr0 : 0 ≤ x % 8 := by omega
  have hr1 : x % 8 < 8 := by omega
  go_enter Try.func17, Try.ntmps17
  go_wp2
  go_ret
  exact ⟨ret_bool (by unfold hasB; rw [List.getD, E1.out]; rfl), 0, rfl⟩

set_option maxHeartbeats 1000000 in
/-- pkSame, where all is the same. -/
theorem same_yes (w : World) (B pb : Nat) (D : Ad) (R : Pk) (aS aC aH aO aA aT : Option Addr) (cS cC cH cO cA cT : Nat) (hM : PM w B pb D R)
    (hS : Rd w aS R.st.length (u8s R.st)) (hC : Rd w aC R.sec.length (bools R.sec)) (hH : Rd w aH R.held.length (ints R.held)) (hO : Rd w aO R.ord.length (ints R.ord)) (hA : Rd w aA R.at_.length (ints R.at_)) (hT : Rd w aT R.starts.length (ints R.starts)) :
    Calls Try.prog 18 #[.pointer (some ⟨pb, 0, none⟩), .slice aS R.st.length cS, .int .i64 R.ver, .int .i64 R.act, .slice aC R.sec.length cC, .int .i64 R.que, .slice aH R.held.length cH, .slice aO R.ord.length cO, .slice aA R.at_.length cA, .slice aT R.starts.length cT] w
      fun e w' => e = .returned (.bool true) ∧ Below w.heap.size w w' := by
  obtain ⟨c0, c1, c2, c3, c4, c5, c6, c7, c8⟩ := hM.box.cells
  have d0 := hdg c0
  have d1 := hdg c1
  have d2 := hdg c2
  have d3 := hdg c3
  have d4 := hdg c4
  have d5 := hdg c5
  have d6 := hdg c6
  have d7 := hdg c7
  have d8 := hdg c8
  have rS := hdg hS
  have rC := hdg hC
  have rH := hdg hH
  have rO := hdg hO
  have rA := hdg hA
  have rT := hdg hT
  have pS := hdg hM.s.rd
  have pC := hdg hM.c.rd
  have pH := hdg hM.h.rd
  have pO := hdg hM.o.rd
  have pA := hdg hM.a.rd
  have pT := hdg hM.t.rd
  clear hM hS hC hH hO hA hT c0 c1 c2 c3 c4 c5 c6 c7 c8
  go_enter Try.func18, Try.ntmps18
  go_wp2_with fail
  refine Calls.mono (states_any pb R.st.length D.cs D.s R.st w d0.out pS.out) ?_
  rintro e v1 ⟨rfl, ho, hb⟩
  have K1 := hdg hb
  have O1 := hdg ho
  clear ho hb
  go_wp2_with fail
  refine Calls.mono (eqU8_same (some ⟨w.heap.size, 0, none⟩) aS R.st.length R.st.length cS R.st v1 (O1.out.rd) (rS.out.below K1.out)) ?_
  rintro e v2 ⟨rfl, hb⟩
  have K2 := hdg (blg K1.out hb)
  clear hb
  go_wp2_with fail
  refine Calls.mono (get30 pb (.int .i64 R.ver) v2 (cell_atg K2.out d1.out)) ?_
  rintro e w' ⟨rfl, hw⟩
  rw [hw]
  clear hw w'
  go_wp2_with fail
  refine Calls.mono (get31 pb (.int .i64 R.act) v2 (cell_atg K2.out d2.out)) ?_
  rintro e w' ⟨rfl, hw⟩
  rw [hw]
  clear hw w'
  go_wp2_with fail
  refine Calls.mono (get33 pb (.slice D.c R.sec.length D.cc) v2 (cell_atg K2.out d3.out)) ?_
  rintro e w' ⟨rfl, hw⟩
  rw [hw]
  clear hw w'
  go_wp2_with fail
  refine Calls.mono (eqBools_same D.c aC R.sec.length D.cc cC R.sec v2 (pC.out.below K2.out) (rC.out.below K2.out)) ?_
  rintro e v3 ⟨rfl, hb⟩
  have K3 := hdg (blg K2.out hb)
  clear hb
  go_wp2_with fail
  refine Calls.mono (get34 pb (.int .i64 R.que) v3 (cell_atg K3.out d4.out)) ?_
  rintro e w' ⟨rfl, hw⟩
  rw [hw]
  clear hw w'
  go_wp2_with fail
  refine Calls.mono (get36 pb (.slice D.h R.held.length D.ch) v3 (cell_atg K3.out d5.out)) ?_
  rintro e w' ⟨rfl, hw⟩
  rw [hw]
  clear hw w'
  go_wp2_with fail
  refine Calls.mono (eqInts_same D.h aH R.held.length D.ch cH R.held v3 (pH.out.below K3.out) (rH.out.below K3.out)) ?_
  rintro e v4 ⟨rfl, hb⟩
  have K4 := hdg (blg K3.out hb)
  clear hb
  go_wp2_with fail
  refine Calls.mono (get37 pb (.slice D.o R.ord.length D.co) v4 (cell_atg K4.out d6.out)) ?_
  rintro e w' ⟨rfl, hw⟩
  rw [hw]
  clear hw w'
  go_wp2_with fail
  refine Calls.mono (eqInts_same D.o aO R.ord.length D.co cO R.ord v4 (pO.out.below K4.out) (rO.out.below K4.out)) ?_
  rintro e v5 ⟨rfl, hb⟩
  have K5 := hdg (blg K4.out hb)
  clear hb
  go_wp2_with fail
  refine Calls.mono (get38 pb (.slice D.a R.at_.length D.ca) v5 (cell_atg K5.out d7.out)) ?_
  rintro e w' ⟨rfl, hw⟩
  rw [hw]
  clear hw w'
  go_wp2_with fail
  refine Calls.mono (eqInts_same D.a aA R.at_.length D.ca cA R.at_ v5 (pA.out.below K5.out) (rA.out.below K5.out)) ?_
  rintro e v6 ⟨rfl, hb⟩
  have K6 := hdg (blg K5.out hb)
  clear hb
  go_wp2_with fail
  refine Calls.mono (get39 pb (.slice D.t R.starts.length D.ct) v6 (cell_atg K6.out d8.out)) ?_
  rintro e w' ⟨rfl, hw⟩
  rw [hw]
  clear hw w'
  go_wp2_with fail
  refine Calls.mono (eqInts_same D.t aT R.starts.length D.ct cT R.starts v6 (pT.out.below K6.out) (rT.out.below K6.out)) ?_
  rintro e v7 ⟨rfl, hb⟩
  have K7 := hdg (blg K6.out hb)
  clear hb
  go_wp2_with fail
  go_ret
  exact ⟨rfl, K7.out⟩
end Go.Proofs.Qxb6602173a
