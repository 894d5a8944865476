import Derived.Test.Qxb6602173aPos3
namespace Go.Proofs.Qxb6602173a
open Go.RowKit
set_option linter.unusedVariables false
set_option linter.unusedSimpArgs false

set_option maxHeartbeats 8000000 in
set_option maxRecDepth 100000 in
theorem law3 (P : Pk) (aS aC aH aO aA aT aB aF : Option Addr) (cS cC cH cO cA cT cB cF : Nat) (has fet : List Int) (queue : Int) (w : World)
    (hS : Rd0 w aS P.st.length (u8s P.st)) (hC : Rd0 w aC P.sec.length (bools P.sec)) (hH : Rd0 w aH P.held.length (ints P.held)) (hO : Rd0 w aO P.ord.length (ints P.ord)) (hA : Rd0 w aA P.at_.length (ints P.at_)) (hT : Rd0 w aT P.starts.length (ints P.starts)) (hB : Rd0 w aB has.length (u8s has)) (hF : Rd0 w aF fet.length (ints fet)) :
    Calls Try.prog 3 #[.slice aS P.st.length cS, .int .i64 P.ver, .int .i64 P.act, .slice aC P.sec.length cC, .int .i64 P.que, .slice aH P.held.length cH, .slice aO P.ord.length cO, .slice aA P.at_.length cA, .slice aT P.starts.length cT, .slice aB has.length cB, .slice aF fet.length cF, .int .i64 queue] w
      fun e w' => e = .returned (.bool true) ∧ Below w.heap.size w w' := by
  have KZ := hd (zz9_any aS P.st.length cS P.ver P.act aC P.sec.length cC P.que aH P.held.length cH aO P.ord.length cO aA P.at_.length cA aT P.starts.length cT aB has.length cB aF fet.length cF queue w hS.2.1 hC.2.1 hH.2.1 hO.2.1 hA.2.1 hT.2.1 hB.2.1 hF.2.1)
  have QS := hd hS
  have QC := hd hC
  have QH := hd hH
  have QO := hd hO
  have QA := hd hA
  have QT := hd hT
  have QB := hd hB
  have QF := hd hF
  clear hS hC hH hO hA hT hB hF
  go_enter Try.func3, Try.ntmps3
  go_wp2_with fail
  refine Calls.mono KZ.out ?_
  rintro e w' ⟨rfl, hw⟩
  rw [hw]
  clear hw w' KZ
  by_cases hz : P.st.length + P.sec.length + P.held.length + P.ord.length + P.at_.length + P.starts.length + has.length + fet.length ≤ 1048576
  case neg =>
    rw [sumOk_f hz]
    clear hz
    as_aux_lemma =>
      go_wp2_with fail
      go_ret
      exact ⟨rfl, Below.refl _ _⟩
  rw [sumOk_t hz]
  by_cases h8 : P.st.length + P.sec.length + has.length + 8 * (P.held.length + P.ord.length + P.at_.length + P.starts.length + fet.length) ≤ 1048576
  case neg =>
    as_aux_lemma =>
      go_wp2_with fail
      go_ret
      exact ⟨rfl, Below.refl _ _⟩
  go_wp2_with fail
  refine Calls.mono (wide_any _) ?_
  rintro e w' ⟨rfl, hw⟩
  rw [hw]
  clear hw w'
  by_cases q1 : P.que < 1
  case pos =>
    as_aux_lemma =>
      go_wp2_with fail
      go_ret
      exact ⟨rfl, Below.refl _ _⟩
  by_cases q2 : 1073741824 < P.que
  case pos =>
    as_aux_lemma =>
      go_wp2_with fail
      go_ret
      exact ⟨rfl, Below.refl _ _⟩
  by_cases q3 : queue < 0
  case pos =>
    as_aux_lemma =>
      go_wp2_with fail
      go_ret
      exact ⟨rfl, Below.refl _ _⟩
  by_cases q4 : 1073741824 < queue
  case pos =>
    as_aux_lemma =>
      go_wp2_with fail
      go_ret
      exact ⟨rfl, Below.refl _ _⟩
  have RS := hd (QS.out.rd (by omega))
  have RC := hd (QC.out.rd (by omega))
  have RH := hd (QH.out.rd (by omega))
  have RO := hd (QO.out.rd (by omega))
  have RA := hd (QA.out.rd (by omega))
  have RT := hd (QT.out.rd (by omega))
  have RB := hd (QB.out.rd (by omega))
  have RF := hd (QF.out.rd (by omega))
  clear QS QC QH QO QA QT QB QF
  go_wp2_with fail
  by_cases hv : Valid P
  case neg =>
    refine Calls.mono (valid_no P aS aC aH aO aA aT cS cC cH cO cA cT _ RS.out RC.out RH.out RO.out RA.out RT.out hv) ?_
    rintro e w1 ⟨rfl, hb1⟩
    have B1 := hd hb1
    clear hb1 hv
    as_aux_lemma =>
      go_wp2_with fail
      go_ret
      exact ⟨rfl, B1.out⟩
  refine Calls.mono (valid_yes P aS aC aH aO aA aT cS cC cH cO cA cT _ RS.out RC.out RH.out RO.out RA.out RT.out hv) ?_
  rintro e w1 ⟨rfl, hb1⟩
  have B1 := hd hb1
  have HV := hd hv
  clear hb1 hv
  by_cases hb : (has.length : Int) < ((P.st.length : Int) + 7) / 8
  case pos =>
    as_aux_lemma =>
      go_wp2_with fail
      go_ret
      exact ⟨rfl, B1.out⟩
  have HP := hd (HV.out.pickable (nb := has.length) (by omega) (by omega) (by omega) (by omega))
  have HN : Hid (P.st.length ≤ 1048576) := by show _ ≤ _; omega
  have hq0 : 0 ≤ queue := by omega
  have hq1 : queue ≤ 1073741824 := by omega
  have hQ1 : 1 ≤ P.que := by omega
  have hQ2 : P.que ≤ 1073741824 := by omega
  have hnn : P.st.length ≤ 1048576 := by omega
  have hnf : fet.length ≤ 1048576 := by omega
  have hnb : (P.st.length : Int) ≤ 8 * (has.length : Int) := by omega
  have hv0 := HP.out.v0
  have hv1 := HP.out.v1
  have hac0 := HP.out.a0
  have hac1 := HP.out.a1
  have pA0 : 0 ≤ ((P.st.length : Int) - P.ver) * queue := Int.mul_nonneg (by omega) hq0
  have pA1 : ((P.st.length : Int) - P.ver) * queue ≤ 1125899906842624 := by
    have : ((P.st.length : Int) - P.ver) * queue ≤ 1048576 * 1073741824 := Int.mul_le_mul (by omega) hq1 hq0 (by omega)
    omega
  have pL0 : 0 ≤ (fet.length : Int) * P.que := Int.mul_nonneg (by omega) (by omega)
  have pL1 : (fet.length : Int) * P.que ≤ 1125899906842624 := by
    have : (fet.length : Int) * P.que ≤ 1048576 * 1073741824 := Int.mul_le_mul (by omega) hQ2 (by omega) (by omega)
    omega
  clear q1 q2 q3 q4 hb
  have C1 := hd B1.out
  go_wp2_with fail
  refine Calls.mono (cloneU8_any aS P.st.length cS P.st w1 (RS.out.below C1.out)) ?_
  rintro e w2 ⟨aS2, cS2, rfl, hO2, hb2⟩
  have OS := hd hO2
  have B2 := hd hb2
  clear hO2 hb2
  have C2 := hd (bl C1.out B2.out)
  go_wp2_with fail
  refine Calls.mono (cloneBools_any aC P.sec.length cC P.sec w2 (RC.out.below C2.out)) ?_
  rintro e w3 ⟨aC2, cC2, rfl, hO2, hb2⟩
  have OC := hd hO2
  have B3 := hd hb2
  clear hO2 hb2
  have C3 := hd (bl C2.out B3.out)
  go_wp2_with fail
  refine Calls.mono (cloneInts_any aH P.held.length cH P.held w3 (RH.out.below C3.out)) ?_
  rintro e w4 ⟨aH2, cH2, rfl, hO2, hb2⟩
  have OH := hd hO2
  have B4 := hd hb2
  clear hO2 hb2
  have C4 := hd (bl C3.out B4.out)
  go_wp2_with fail
  refine Calls.mono (cloneInts_any aO P.ord.length cO P.ord w4 (RO.out.below C4.out)) ?_
  rintro e w5 ⟨aO2, cO2, rfl, hO2, hb2⟩
  have OO := hd hO2
  have B5 := hd hb2
  clear hO2 hb2
  have C5 := hd (bl C4.out B5.out)
  go_wp2_with fail
  refine Calls.mono (cloneInts_any aA P.at_.length cA P.at_ w5 (RA.out.below C5.out)) ?_
  rintro e w6 ⟨aA2, cA2, rfl, hO2, hb2⟩
  have OA := hd hO2
  have B6 := hd hb2
  clear hO2 hb2
  have C6 := hd (bl C5.out B6.out)
  go_wp2_with fail
  refine Calls.mono (cloneInts_any aT P.starts.length cT P.starts w6 (RT.out.below C6.out)) ?_
  rintro e w7 ⟨aT2, cT2, rfl, hO2, hb2⟩
  have OT := hd hO2
  have B7 := hd hb2
  clear hO2 hb2
  have C7 := hd (bl C6.out B7.out)
  go_wp2_with fail
  refine Calls.mono (cloneU8_any aB has.length cB has w7 (RB.out.below C7.out)) ?_
  rintro e w8 ⟨aB2, cB2, rfl, hO2, hb2⟩
  have OB := hd hO2
  have B8 := hd hb2
  clear hO2 hb2
  have C8 := hd (bl C7.out B8.out)
  go_wp2_with fail
  refine Calls.mono (cloneInts_any aF fet.length cF fet w8 (RF.out.below C8.out)) ?_
  rintro e w9 ⟨aF2, cF2, rfl, hO2, hb2⟩
  have OF := hd hO2
  have B9 := hd hb2
  clear hO2 hb2
  have C9 := hd (bl C8.out B9.out)
  have X8 := hd B9.out
  have X7 := hd (bl B8.out X8.out)
  have X6 := hd (bl B7.out X7.out)
  have X5 := hd (bl B6.out X6.out)
  have X4 := hd (bl B5.out X5.out)
  have X3 := hd (bl B4.out X4.out)
  have X2 := hd (bl B3.out X3.out)
  have LS := hd (OS.out.below X2.out)
  have LC := hd (OC.out.below X3.out)
  have LH := hd (OH.out.below X4.out)
  have LO := hd (OO.out.below X5.out)
  have LA := hd (OA.out.below X6.out)
  have LT := hd (OT.out.below X7.out)
  have LB := hd (OB.out.below X8.out)
  have LF := hd OF.out
  have CL := hd C9.out
  clear RS RC RH RO RA RT RB RF OS OC OH OO OA OT OB OF B2 B3 B4 B5 B6 B7 B8 B9 C1 C2 C3 C4 C5 C6 C7 C8 C9 X2 X3 X4 X5 X6 X7 X8
  have E9 := hd (Below.refl w9.heap.size w9)
  go_wp2_with fail
  refine Calls.mono (cloneU8_any aS2 P.st.length cS2 P.st w9 (LS.out.rd.below E9.out)) ?_
  rintro e w10 ⟨aS3, cS3, rfl, hO2, hb2⟩
  have IS := hd hO2
  have B10 := hd hb2
  clear hO2 hb2
  have E10 := hd (bl E9.out B10.out)
  go_wp2_with fail
  refine Calls.mono (cloneBools_any aC2 P.sec.length cC2 P.sec w10 (LC.out.rd.below E10.out)) ?_
  rintro e w11 ⟨aC3, cC3, rfl, hO2, hb2⟩
  have IC := hd hO2
  have B11 := hd hb2
  clear hO2 hb2
  have E11 := hd (bl E10.out B11.out)
  go_wp2_with fail
  refine Calls.mono (cloneInts_any aH2 P.held.length cH2 P.held w11 (LH.out.rd.below E11.out)) ?_
  rintro e w12 ⟨aH3, cH3, rfl, hO2, hb2⟩
  have IH := hd hO2
  have B12 := hd hb2
  clear hO2 hb2
  have E12 := hd (bl E11.out B12.out)
  go_wp2_with fail
  refine Calls.mono (cloneInts_any aO2 P.ord.length cO2 P.ord w12 (LO.out.rd.below E12.out)) ?_
  rintro e w13 ⟨aO3, cO3, rfl, hO2, hb2⟩
  have JO := hd hO2
  have B13 := hd hb2
  clear hO2 hb2
  have E13 := hd (bl E12.out B13.out)
  go_wp2_with fail
  refine Calls.mono (cloneInts_any aA2 P.at_.length cA2 P.at_ w13 (LA.out.rd.below E13.out)) ?_
  rintro e w14 ⟨aA3, cA3, rfl, hO2, hb2⟩
  have IA := hd hO2
  have B14 := hd hb2
  clear hO2 hb2
  have E14 := hd (bl E13.out B14.out)
  go_wp2_with fail
  refine Calls.mono (cloneInts_any aT2 P.starts.length cT2 P.starts w14 (LT.out.rd.below E14.out)) ?_
  rintro e w15 ⟨aT3, cT3, rfl, hO2, hb2⟩
  have IT := hd hO2
  have B15 := hd hb2
  clear hO2 hb2
  have E15 := hd (bl E14.out B15.out)
  have Y14 := hd B15.out
  have Y13 := hd (bl B14.out Y14.out)
  have Y12 := hd (bl B13.out Y13.out)
  have Y11 := hd (bl B12.out Y12.out)
  have Y10 := hd (bl B11.out Y11.out)
  go_wp2_with fail
  refine Calls.mono (make_any aS3 aC3 aH3 aO3 aA3 aT3 P.st.length cS3 P.sec.length cC3 P.held.length cH3 P.ord.length cO3 P.at_.length cA3 P.starts.length cT3 P.ver P.act P.que P.st w15 (IS.out.rd.below Y10.out)) ?_
  rintro e w16 ⟨pb, rfl, hbx, hst, hb16, hpb⟩
  have B16 := hd hb16
  have hM : Hid (PM w16 w9.heap.size pb ⟨some ⟨w15.heap.size, 0, none⟩, aC3, aH3, aO3, aA3, aT3, P.st.length, cC3, cH3, cO3, cA3, cT3⟩ P) := by
    have s10 := B10.out.size
    have s11 := B11.out.size
    have s12 := B12.out.size
    have s13 := B13.out.size
    have s14 := B14.out.size
    have s15 := B15.out.size
    refine PM.build hbx (by omega) hst (by omega) (by have := HN.out; omega) ((IC.out.below (bl Y11.out B16.out)).mono (by omega)) ((IH.out.below (bl Y12.out B16.out)).mono (by omega)) ((JO.out.below (bl Y13.out B16.out)).mono (by omega)) ((IA.out.below (bl Y14.out B16.out)).mono (by omega)) ((IT.out.below B16.out).mono (by omega)) ?_ ?_ ?_ ?_ ?_ ?_
    · exact apt_lt IH.out JO.out (Nat.le_refl _)
    · exact apt_lt IH.out IA.out (by omega)
    · exact apt_lt IH.out IT.out (by omega)
    · exact apt_lt JO.out IA.out (Nat.le_refl _)
    · exact apt_lt JO.out IT.out (by omega)
    · exact apt_lt IA.out IT.out (Nat.le_refl _)
  have E16 := hd (bl E15.out B16.out)
  generalize (⟨some ⟨w15.heap.size, 0, none⟩, aC3, aH3, aO3, aA3, aT3, P.st.length, cC3, cH3, cO3, cA3, cT3⟩ : Ad) = D at hM
  clear hbx hst hb16 hpb IS IC IH JO IA IT B10 B11 B12 B13 B14 B15 B16 E9 E10 E11 E12 E13 E14 E15 Y10 Y11 Y12 Y13 Y14
  go_wp2_with fail
  refine Calls.mono (pick_pm w16 w9.heap.size pb D P aB2 aF2 has.length cB2 fet.length cF2 has fet queue hM.out HP.out (LB.out.rd.below E16.out) (LF.out.rd.below E16.out) hq0 hq1) ?_
  rintro e u0 ⟨rfl, hM2, hf2⟩
  have HB2 := hd (E16.out.trans (hf2.below (B := w9.heap.size) fun k hk => ⟨by have := E16.out.size; omega, fun hF => by
    rcases hF with rfl | e | e
    · have := hM.out.hB; omega
    · have := (hM.out.s.lt e).1; omega
    · have := (hM.out.c.lt e).1; omega⟩))
  have HMR := hd hM2
  clear hM hM2 hf2 E16
  obtain ⟨r, hr⟩ : ∃ r, pickF P has fet queue = r := ⟨_, rfl⟩
  rw [hr] at HMR ⊢
  have ER := hd hr
  clear hr
  unfold found
  obtain ⟨gi, hgi⟩ : ∃ gi, r.getD 0 = gi := ⟨_, rfl⟩
  obtain ⟨gk, hgk⟩ : ∃ gk, r.isSome = gk := ⟨_, rfl⟩
  rw [hgi, hgk]
  have EGI := hd hgi
  have EGK := hd hgk
  clear hgi hgk
  go_wp2_with fail
  refine Calls.mono (cloneU8_any aS2 P.st.length cS2 P.st u0 (LS.out.rd.below HB2.out)) ?_
  rintro e u1 ⟨aWS, cWS, rfl, hO2, hb2⟩
  have OWS0 := hd hO2
  have V1 := hd hb2
  clear hO2 hb2
  go_wp2_with fail
  refine Calls.mono (cloneBools_any aC2 P.sec.length cC2 P.sec u1 (LC.out.rd.below (bl HB2.out V1.out))) ?_
  rintro e u2 ⟨aWC, cWC, rfl, hO2, hb2⟩
  have OWC := hd hO2
  have V2 := hd hb2
  clear hO2 hb2
  have OWS := hd (OWS0.out.below V2.out)
  have HLU := hd (bl (bl HB2.out V1.out) V2.out)
  have HMR2 := hd (HMR.out.below (bl V1.out V2.out))
  have BU := hd (CL.out.trans (HLU.out.mono CL.out.size))
  have VU := hd (bl V1.out V2.out)
  have hU01 := V1.out.size
  have HMR0 := hd HMR.out
  clear OWS0 HMR
  have HMR := hd HMR2.out
  clear HMR2
  by_cases hsh : (fet.length : Int) * P.que < ((P.st.length : Int) - P.ver) * queue
  case neg =>
    have ERN := hd (share_none has fet queue hQ1 hsh)
    obtain rfl : r = none := by rw [← ER.out]; exact ERN.out
    obtain rfl : gi = 0 := EGI.out.symm
    obtain rfl : gk = false := EGK.out.symm
    have hshb : decide ((fet.length : Int) * P.que < ((P.st.length : Int) - P.ver) * queue) = false := decide_eq_false hsh
    have HZ := hd (Below.refl u2.heap.size u2)
    clear ERN V1 V2
    have KS := hd (same_of u2 _ pb D P _ _ _ _ _ _ _ _ _ (Pk.ext' rfl rfl rfl rfl rfl rfl rfl rfl rfl) aWS aWC aH2 aO2 aA2 aT2 cWS cWC cH2 cO2 cA2 cT2 P.st.length P.sec.length P.held.length P.ord.length P.at_.length P.starts.length (HMR.out.below HZ.out) (OWS.out.rd.below HZ.out) (OWC.out.rd.below HZ.out) (LH.out.rd.below (bl HLU.out HZ.out)) (LO.out.rd.below (bl HLU.out HZ.out)) (LA.out.rd.below (bl HLU.out HZ.out)) (LT.out.rd.below (bl HLU.out HZ.out)))
    have BE := hd (bl BU.out HZ.out)
    as_aux_lemma =>
      go_wp2_with fail
      refine Calls.mono KS.out ?_
      rintro e u9 ⟨rfl, hb9⟩
      have B9 := hd (bl BE.out hb9)
      clear hb9 KS
      go_wp2_with fail
      go_ret
      exact ⟨rfl, B9.out⟩

  have HSH := hd hsh
  clear V1 V2
  obtain ⟨i0, hi, hz0, hz1, hz2⟩ := info_parts Try.info4
  go_wp2_with (first | (at_make; refine wpList_make_full _ rfl _ _ 23 rfl u2.heap.size 4 i0 (.bool false) 1 Try.underlying23 hi hz0 hz1 .i64 .i64 P.st.length P.st.length P.st.length rfl rfl rfl rfl (by rw [hz2]; omega) (by unfold maxLen; omega) (Nat.le_refl _) ?_; intro u3 ho hg; have hbk := made_block (by rfl) ho; have hbel := below_grown hg; clear ho hg))
  clear hi hz0 hz1 hz2
  have OI0 : Hid (Own u3 u2.heap.size 4 (some ⟨u2.heap.size, 0, none⟩) P.st.length P.st.length (bools (inL P.st.length (fet.take 0)))) := by
    show Own _ _ _ _ _ _ _
    rw [inL_zero]
    exact Own.fresh hbk (Nat.le_refl _) (by simp) (by omega)
  have V3 := hd hbel
  clear hbk hbel
  obtain ⟨BI, hBI⟩ : ∃ b, u2.heap.size = b := ⟨_, rfl⟩
  rw [hBI] at OI0 V3 ⊢
  have EBI := hd hBI
  clear hBI
  go_loopw [212] (fun iv wr => ∃ k : Nat, k ≤ fet.length ∧ iv = .int .i64 k ∧ Hid (Own wr BI 4 (some ⟨BI, 0, none⟩) P.st.length P.st.length (bools (inL P.st.length (fet.take k)))) ∧ Hid (Below BI u2 wr)) (fun iv _ => fet.length - (intOf iv).toNat)
  case atStart => exact ⟨0, Nat.zero_le _, rfl, OI0, V3⟩
  case round =>
    obtain ⟨k, hk, rfl, HO, HL⟩ := hrel
    clear OI0 V3
    have HLz : Hid (Below u2.heap.size u2 wr) := by show Below _ _ _; rw [EBI.out]; exact HL.out
    by_cases hkf : k < fet.length
    · obtain ⟨bF, oF, x, eF, ex, gF⟩ := (LF.out.rd.below (bl HLU.out HLz.out)).int hkf
      have EFF := hd eF
      have EX := hd ex
      clear ex
      obtain rfl := EFF.out
      clear eF EFF
      by_cases c1 : x < 0
      · have c1' : decide (0 ≤ x) = false := by simp; omega
        have EI := hd (inL_skip (n := P.st.length) EX.out (.inl c1))
        as_aux_lemma =>
          go_wp2
          go_roundw
          case rel => exact ⟨k + 1, by omega, by go_num, by show Own _ _ _ _ _ _ _; rw [EI.out]; exact HO.out, HL⟩
          case measure => simp [intOf]; omega
      by_cases c2 : (P.st.length : Int) ≤ x
      · have c1' : decide (0 ≤ x) = true := by simp; omega
        have c2' : decide (x < (P.st.length : Int)) = false := by simp; omega
        have EI := hd (inL_skip (n := P.st.length) EX.out (.inr c2))
        as_aux_lemma =>
          go_wp2
          go_roundw
          case rel => exact ⟨k + 1, by omega, by go_num, by show Own _ _ _ _ _ _ _; rw [EI.out]; exact HO.out, HL⟩
          case measure => simp [intOf]; omega
      have c1' : 0 ≤ x := by omega
      have c2' : x < (P.st.length : Int) := by omega
      clear c1 c2
      have EI := hd (inL_set (n := P.st.length) EX.out c1' c2')
      obtain ⟨g, eg, hg, _, fz, ⟨v, hv, cv⟩, hset⟩ := HO.out.at (i := x.toNat) (by omega)
      cases eg
      have SQ := hd (hset (.bool true))
      rw [set_bools] at SQ
      clear hv hset
      as_aux_lemma =>
        go_wp2
        go_roundw
        case rel => exact ⟨k + 1, by omega, by go_num, by show Own _ _ _ _ _ _ _; rw [EI.out]; exact SQ.out, HL.out.setCell hg _⟩
        case measure => simp [intOf]; omega
    · have OI : Hid (Own wr BI 4 (some ⟨BI, 0, none⟩) P.st.length P.st.length (bools (inL P.st.length fet))) := by
        have := HO.out
        rw [List.take_of_length_le (by omega)] at this
        exact this
      clear HO HL
      go_wp2
      generalize wr = wz at OI HLz ⊢
      have HLZ := hd (bl HLU.out HLz.out)
      clear hkf hk
      go_loopw [37, 38] (fun bv jv wr => ∃ (j : Nat) (b : Int) (u : Nat), j ≤ P.st.length ∧ jv = .int .i64 j ∧ bv = .int .i64 b ∧ -1 ≤ b ∧ b < P.st.length + 1 ∧ wr = wz.drewN u ∧ Hid (Best (c1F P has) P.at_ j b)) (fun _ jv _ => P.st.length - (intOf jv).toNat)
      case atStart => exact ⟨0, -1, 0, Nat.zero_le _, rfl, rfl, by omega, by omega, rfl, Best.zero _ _⟩
      case round =>
        obtain ⟨j, b, u, hj, rfl, rfl, hb0, hb1, rfl, HBe⟩ := hrel
        by_cases hjn : j < P.st.length
        · have hjn' : (j : Int) < (P.st.length : Int) := by omega
          have hjh : j < P.held.length := by rw [HV.out.held]; exact hjn
          have hjh' : (j : Int) < (P.held.length : Int) := by omega
          have hja : j < P.at_.length := by rw [HV.out.at_]; exact hjn
          have hja' : (j : Int) < (P.at_.length : Int) := by omega
          obtain ⟨bS, oS, y, eS, ey, gy⟩ := (LS.out.rd.below HLZ.out).u8 hjn
          obtain ⟨bH, oH, hv, eH, eh, gh⟩ := (LH.out.rd.below HLZ.out).int hjh
          obtain ⟨bA, oA, ax, eA, ea, ga⟩ := (LA.out.rd.below HLZ.out).int hja
          have A1 := hd eS
          have A2 := hd eH
          have A3 := hd eA
          have EY := hd ey
          have EH := hd eh
          have EA := hd ea
          clear eS eH eA ey eh ea
          obtain rfl := A1.out
          obtain rfl := A2.out
          obtain rfl := A3.out
          clear A1 A2 A3
          obtain ⟨bt, hbt⟩ : ∃ bt, hasB has (j : Int) = bt := ⟨_, rfl⟩
          have K17 : Hid (∀ q, Calls Try.prog 17 #[.slice aB2 has.length cB2, .int .i64 (j : Int)] (wz.drewN q) fun e w' => e = .returned (.bool bt) ∧ w' = wz.drewN q) := fun q => by
            have := pkHas_eq (j : Int) aB2 has.length cB2 has (wz.drewN q) (by omega) (by omega) ((LB.out.rd.below HLZ.out).drewN q)
            rw [hbt] at this
            exact this
          have CV := hd (c1_val (has := has) EY.out EH.out hbt)
          clear hbt
          by_cases cy : y = 0
          case neg =>
            have cyb : (y == 0) = false := beq_eq_false_iff_ne.2 cy
            have HS := hd (HBe.out.skip (by rw [CV.out, cyb]; rfl))
            clear cy CV
            as_aux_lemma =>
              go_wp2
              go_quiet ((go_at_call 17; exact (K17.out _).mono fun _ _ h => ⟨h.1, _, h.2⟩))
              go_wp2
              go_roundw
              case rel => exact ⟨j + 1, b, _, by omega, by go_num, rfl, hb0, hb1, rfl, HS⟩
              case measure => simp [intOf]; omega
          subst cy
          by_cases ch : 1 ≤ hv
          case neg =>
            have chb : decide (1 ≤ hv) = false := by simp; omega
            have HS := hd (HBe.out.skip (by rw [CV.out, chb]; rfl))
            clear ch CV
            as_aux_lemma =>
              go_wp2
              go_quiet ((go_at_call 17; exact (K17.out _).mono fun _ _ h => ⟨h.1, _, h.2⟩))
              go_wp2
              go_roundw
              case rel => exact ⟨j + 1, b, _, by omega, by go_num, rfl, hb0, hb1, rfl, HS⟩
              case measure => simp [intOf]; omega
          cases bt with
          | false =>
            have HS := hd (HBe.out.skip (by rw [CV.out]; simp))
            clear CV
            as_aux_lemma =>
              go_wp2
              go_quiet ((go_at_call 17; exact (K17.out _).mono fun _ _ h => ⟨h.1, _, h.2⟩))
              go_wp2
              go_roundw
              case rel => exact ⟨j + 1, b, _, by omega, by go_num, rfl, hb0, hb1, rfl, HS⟩
              case measure => simp [intOf]; omega
          | true =>
            have HC1 : Hid (c1F P has j = true) := by show _ = _; rw [CV.out, decide_eq_true ch]; rfl
            clear CV
            by_cases cb : b < 0
            · have HS := hd (HBe.out.first HC1.out cb)
              as_aux_lemma =>
                go_wp2
                go_quiet ((go_at_call 17; exact (K17.out _).mono fun _ _ h => ⟨h.1, _, h.2⟩))
                go_wp2
                go_roundw
                case rel => exact ⟨j + 1, (j : Int), _, by omega, by go_num, rfl, by omega, by omega, rfl, HS⟩
                case measure => simp [intOf]; omega
            · have cb' : decide (b < 0) = false := by simp; omega
              have cb0 : 0 ≤ b := by omega
              have hbl : b < P.st.length := by rcases HBe.out with ⟨e, _⟩ | ⟨_, h1, _⟩ <;> omega
              have hbl' : b < (P.at_.length : Int) := by rw [HV.out.at_]; exact hbl
              obtain ⟨bA2, oA2, ab, eA2, ea2, ga2⟩ := (LA.out.rd.below HLZ.out).int (i := b.toNat) (by omega)
              cases eA2
              have EB := hd ea2
              clear ea2
              by_cases cl : ax < ab
              · have HS := hd (HBe.out.better HC1.out cb0 (by rw [getD_of EA.out, getD_of EB.out]; exact cl))
                as_aux_lemma =>
                  go_wp2
                  go_quiet ((go_at_call 17; exact (K17.out _).mono fun _ _ h => ⟨h.1, _, h.2⟩))
                  go_wp2
                  go_roundw
                  case rel => exact ⟨j + 1, (j : Int), _, by omega, by go_num, rfl, by omega, by omega, rfl, HS⟩
                  case measure => simp [intOf]; omega
              · have clb : decide (ax < ab) = false := by simp; omega
                have HS := hd (HBe.out.worse (C := c1F P has) cb0 (by rw [getD_of EA.out, getD_of EB.out]; exact cl))
                as_aux_lemma =>
                  go_wp2
                  go_quiet ((go_at_call 17; exact (K17.out _).mono fun _ _ h => ⟨h.1, _, h.2⟩))
                  go_wp2
                  go_roundw
                  case rel => exact ⟨j + 1, b, _, by omega, by go_num, rfl, hb0, hb1, rfl, HS⟩
                  case measure => simp [intOf]; omega
        · have HB1 : Hid (Best (c1F P has) P.at_ P.st.length b) := by
            have := HBe.out
            rw [show j = P.st.length by omega] at this
            exact this
          clear HBe
          have ANS := hd (HV.out.answer has fet queue hQ1 HSH.out HB1.out)
          by_cases cb : b < 0
          · have cb' : decide (b < 0) = true := by simp; exact cb
            by_cases ce : P.act = (P.st.length : Int) - P.ver
            · have ceb : (P.act == (P.st.length : Int) - P.ver) = true := beq_iff_eq.2 ce
              have HEG : Hid (P.act = (P.ord.length : Int)) := by show _ = _; rw [HV.out.ordl]; exact ce
              clear ce
              go_wp2
              obtain rfl : b = -1 := by omega
              have ANS2 := hd (fun b2 => ANS.out.2.2 (by omega) HEG.out b2)
              clear ANS HB1 HEG
              go_loopw [37, 39] (fun bv jv wr => ∃ (j : Nat) (b : Int) (u : Nat), j ≤ P.st.length ∧ jv = .int .i64 j ∧ bv = .int .i64 b ∧ -1 ≤ b ∧ b < P.st.length + 1 ∧ wr = wz.drewN u ∧ Hid (Best (c2F P has fet) P.at_ j b)) (fun _ jv _ => P.st.length - (intOf jv).toNat)
              case atStart => exact ⟨0, -1, _, Nat.zero_le _, rfl, rfl, by omega, by omega, rfl, Best.zero _ _⟩
              case round =>
                clear hj hjn hb0 hb1 cb cb' ceb
                obtain ⟨j, b, u, hj, rfl, rfl, hb0, hb1, rfl, HBe⟩ := hrel
                by_cases hjn : j < P.st.length
                · have hjn' : (j : Int) < (P.st.length : Int) := by omega
                  have hjh : j < P.held.length := by rw [HV.out.held]; exact hjn
                  have hjh' : (j : Int) < (P.held.length : Int) := by omega
                  have hja : j < P.at_.length := by rw [HV.out.at_]; exact hjn
                  have hja' : (j : Int) < (P.at_.length : Int) := by omega
                  have hjc : j < P.sec.length := by rw [HV.out.sec]; exact hjn
                  have hjc' : (j : Int) < (P.sec.length : Int) := by omega
                  obtain ⟨bS, oS, y, eS, ey, gy⟩ := (LS.out.rd.below HLZ.out).u8 hjn
                  obtain ⟨bH, oH, hv, eH, eh, gh⟩ := (LH.out.rd.below HLZ.out).int hjh
                  obtain ⟨bA, oA, ax, eA, ea, ga⟩ := (LA.out.rd.below HLZ.out).int hja
                  obtain ⟨bC, oC, sb, eC, ec, gc⟩ := (LC.out.rd.below HLZ.out).bool hjc
                  obtain ⟨bI, oI, ib, eI, ei, gi2⟩ := OI.out.rd.bool hjn
                  have A1 := hd eS
                  have A2 := hd eH
                  have A3 := hd eA
                  have A4 := hd eC
                  have EY := hd ey
                  have EH := hd eh
                  have EA := hd ea
                  have EC := hd ec
                  have EI : Hid (inB fet (j : Int) = ib) := by
                    show _ = _
                    rw [inL_get hjn] at ei
                    exact Option.some.inj ei
                  clear eS eH eA eC ey eh ea ec ei
                  cases eI
                  obtain rfl := A1.out
                  obtain rfl := A2.out
                  obtain rfl := A3.out
                  obtain rfl := A4.out
                  clear A1 A2 A3 A4
                  rw [Nat.zero_add] at gi2
                  obtain ⟨bt, hbt⟩ : ∃ bt, hasB has (j : Int) = bt := ⟨_, rfl⟩
                  have K17 : Hid (∀ q, Calls Try.prog 17 #[.slice aB2 has.length cB2, .int .i64 (j : Int)] (wz.drewN q) fun e w' => e = .returned (.bool bt) ∧ w' = wz.drewN q) := fun q => by
                    have := pkHas_eq (j : Int) aB2 has.length cB2 has (wz.drewN q) (by omega) (by omega) ((LB.out.rd.below HLZ.out).drewN q)
                    rw [hbt] at this
                    exact this
                  have CV := hd (c2_val (has := has) EY.out EH.out EC.out hbt EI.out)
                  clear hbt EI
                  by_cases cy : y = 1
                  case neg =>
                    have cyb : (y == 1) = false := beq_eq_false_iff_ne.2 cy
                    have HS := hd (HBe.out.skip (by rw [CV.out, cyb]; rfl))
                    clear cy CV
                    as_aux_lemma =>
                      go_wp2
                      go_quiet ((go_at_call 17; exact (K17.out _).mono fun _ _ h => ⟨h.1, _, h.2⟩))
                      go_wp2
                      go_roundw
                      case rel => exact ⟨j + 1, b, _, by omega, by go_num, rfl, hb0, hb1, rfl, HS⟩
                      case measure => simp [intOf]; omega
                  subst cy
                  by_cases ch : 1 ≤ hv
                  case neg =>
                    have chb : decide (1 ≤ hv) = false := by simp; omega
                    have HS := hd (HBe.out.skip (by rw [CV.out, chb]; rfl))
                    clear ch CV
                    as_aux_lemma =>
                      go_wp2
                      go_quiet ((go_at_call 17; exact (K17.out _).mono fun _ _ h => ⟨h.1, _, h.2⟩))
                      go_wp2
                      go_roundw
                      case rel => exact ⟨j + 1, b, _, by omega, by go_num, rfl, hb0, hb1, rfl, HS⟩
                      case measure => simp [intOf]; omega
                  cases sb with
                  | true =>
                    have HS := hd (HBe.out.skip (by rw [CV.out]; simp))
                    clear CV
                    as_aux_lemma =>
                      go_wp2
                      go_quiet ((go_at_call 17; exact (K17.out _).mono fun _ _ h => ⟨h.1, _, h.2⟩))
                      go_wp2
                      go_roundw
                      case rel => exact ⟨j + 1, b, _, by omega, by go_num, rfl, hb0, hb1, rfl, HS⟩
                      case measure => simp [intOf]; omega
                  | false =>
                  cases bt with
                  | false =>
                    have HS := hd (HBe.out.skip (by rw [CV.out]; simp))
                    clear CV
                    as_aux_lemma =>
                      go_wp2
                      go_quiet ((go_at_call 17; exact (K17.out _).mono fun _ _ h => ⟨h.1, _, h.2⟩))
                      go_wp2
                      go_roundw
                      case rel => exact ⟨j + 1, b, _, by omega, by go_num, rfl, hb0, hb1, rfl, HS⟩
                      case measure => simp [intOf]; omega
                  | true =>
                  cases ib with
                  | true =>
                    have HS := hd (HBe.out.skip (by rw [CV.out]; simp))
                    clear CV
                    as_aux_lemma =>
                      go_wp2
                      go_quiet ((go_at_call 17; exact (K17.out _).mono fun _ _ h => ⟨h.1, _, h.2⟩))
                      go_wp2
                      go_roundw
                      case rel => exact ⟨j + 1, b, _, by omega, by go_num, rfl, hb0, hb1, rfl, HS⟩
                      case measure => simp [intOf]; omega
                  | false =>
                    have HC1 : Hid (c2F P has fet j = true) := by show _ = _; rw [CV.out, decide_eq_true ch]; rfl
                    clear CV
                    by_cases cb : b < 0
                    · have HS := hd (HBe.out.first HC1.out cb)
                      as_aux_lemma =>
                        go_wp2
                        go_quiet ((go_at_call 17; exact (K17.out _).mono fun _ _ h => ⟨h.1, _, h.2⟩))
                        go_wp2
                        go_roundw
                        case rel => exact ⟨j + 1, (j : Int), _, by omega, by go_num, rfl, by omega, by omega, rfl, HS⟩
                        case measure => simp [intOf]; omega
                    · have cb' : decide (b < 0) = false := by simp; omega
                      have cb0 : 0 ≤ b := by omega
                      have hbl : b < P.st.length := by rcases HBe.out with ⟨e, _⟩ | ⟨_, h1, _⟩ <;> omega
                      have hbl' : b < (P.at_.length : Int) := by rw [HV.out.at_]; exact hbl
                      obtain ⟨bA2, oA2, ab, eA2, ea2, ga2⟩ := (LA.out.rd.below HLZ.out).int (i := b.toNat) (by omega)
                      cases eA2
                      have EB := hd ea2
                      clear ea2
                      by_cases cl : ax < ab
                      · have HS := hd (HBe.out.better HC1.out cb0 (by rw [getD_of EA.out, getD_of EB.out]; exact cl))
                        as_aux_lemma =>
                          go_wp2
                          go_quiet ((go_at_call 17; exact (K17.out _).mono fun _ _ h => ⟨h.1, _, h.2⟩))
                          go_wp2
                          go_roundw
                          case rel => exact ⟨j + 1, (j : Int), _, by omega, by go_num, rfl, by omega, by omega, rfl, HS⟩
                          case measure => simp [intOf]; omega
                      · have clb : decide (ax < ab) = false := by simp; omega
                        have HS := hd (HBe.out.worse (C := c2F P has fet) cb0 (by rw [getD_of EA.out, getD_of EB.out]; exact cl))
                        as_aux_lemma =>
                          go_wp2
                          go_quiet ((go_at_call 17; exact (K17.out _).mono fun _ _ h => ⟨h.1, _, h.2⟩))
                          go_wp2
                          go_roundw
                          case rel => exact ⟨j + 1, b, _, by omega, by go_num, rfl, hb0, hb1, rfl, HS⟩
                          case measure => simp [intOf]; omega
                · have HB1 : Hid (Best (c2F P has fet) P.at_ P.st.length b) := by
                    have := HBe.out
                    rw [show j = P.st.length by omega] at this
                    exact this
                  clear HBe
                  have ERS := hd (ANS2.out b HB1.out)
                  clear ANS2
                  by_cases cb : b < 0
                  · obtain rfl : r = none := by rw [← ER.out, ERS.out]; exact if_pos cb
                    obtain rfl : gi = 0 := EGI.out.symm
                    obtain rfl : gk = false := EGK.out.symm
                    have HZ := hd (below_drewN HLz.out u)
                    have cb2 : decide (0 ≤ b) = false := by simp; omega
                    clear ERS HB1
                    have KS := hd (same_of (wz.drewN u) _ pb D P _ _ _ _ _ _ _ _ _ (Pk.ext' rfl rfl rfl rfl rfl rfl rfl rfl rfl) aWS aWC aH2 aO2 aA2 aT2 cWS cWC cH2 cO2 cA2 cT2 P.st.length P.sec.length P.held.length P.ord.length P.at_.length P.starts.length (HMR.out.below HZ.out) (OWS.out.rd.below HZ.out) (OWC.out.rd.below HZ.out) (LH.out.rd.below (bl HLU.out HZ.out)) (LO.out.rd.below (bl HLU.out HZ.out)) (LA.out.rd.below (bl HLU.out HZ.out)) (LT.out.rd.below (bl HLU.out HZ.out)))
                    have BE := hd (bl BU.out HZ.out)
                    as_aux_lemma =>
                      go_wp2_with fail
                      refine Calls.mono KS.out ?_
                      rintro e u9 ⟨rfl, hb9⟩
                      have B9 := hd (bl BE.out hb9)
                      clear hb9 KS
                      go_wp2_with fail
                      go_ret
                      exact ⟨rfl, B9.out⟩
                  · have cb0 : 0 ≤ b := by omega
                    have cb2 : decide (0 ≤ b) = true := by simp; exact cb0
                    have hst0 : Hid (b < P.st.length ∧ P.st[b.toNat]? = some 1) := by
                      rcases HB1.out with ⟨e, _⟩ | ⟨_, h1, h2, _⟩
                      · exact absurd e (by omega)
                      · refine ⟨h1, ?_⟩
                        obtain ⟨y, hy⟩ := some_of (l := P.st) (show b.toNat < P.st.length by omega)
                        unfold c2F at h2
                        rw [getD_of hy] at h2
                        simp only [Bool.and_eq_true, beq_iff_eq] at h2
                        rw [hy, h2.1.1.1.1]
                    obtain rfl : r = some b := by rw [← ER.out, ERS.out]; exact if_neg cb
                    clear HB1 ERS
                    obtain rfl : gi = b := EGI.out.symm
                    obtain rfl : gk = true := EGK.out.symm
                    have hbn := hst0.out.1
                    have hbc : gi < (P.sec.length : Int) := by rw [HV.out.sec]; exact hbn
                    obtain ⟨bS, oS, y, eS, ey, gy⟩ := (LS.out.rd.below HLZ.out).u8 (i := gi.toNat) (by omega)
                    rw [hst0.out.2] at ey
                    cases ey
                    have A1 := hd eS
                    clear eS
                    obtain rfl := A1.out
                    clear A1
                    have HZU := hd (below_drewN HLz.out u)
                    obtain ⟨gW, egW, hgW, _, fW, ⟨vw, hvw, cW⟩, _⟩ := (OWC.out.below HLz.out).at (i := gi.toNat) (by omega)
                    have A2 := hd egW
                    clear hvw egW
                    obtain rfl := A2.out
                    clear A2
                    have HTK : Hid (takeF P gi = ⟨P.st, P.ver, P.act, P.sec.set gi.toNat true, P.que, P.held, P.ord, P.at_, P.starts⟩) := by
                      show _ = _
                      unfold takeF
                      rw [getD_of hst0.out.2, if_neg (by decide)]
                    have SW : Hid (Own ((wz.drewN u).setCell ⟨gW, gi.toNat, none⟩ (.bool true)) u1.heap.size 4 (some ⟨gW, 0, none⟩) P.sec.length cWC (bools (P.sec.set gi.toNat true))) := by
                      obtain ⟨g', eg', _, _, _, _, set'⟩ := (OWC.out.below HZU.out).at (i := gi.toNat) (by omega)
                      cases eg'
                      have := set' (.bool true)
                      rw [set_bools] at this
                      exact this
                    have SX : Hid (Own ((wz.drewN u).setCell ⟨gW, gi.toNat, none⟩ (.bool true)) u0.heap.size 5 aWS P.st.length cWS (u8s P.st)) := (OWS.out.below HZU.out).fr (fr_setCell (wz.drewN u) gW gi.toNat (.bool true)) fun b e k => (OWS.out.below HZU.out).ty (OWC.out.below HZU.out) (by decide) b e (by have : b = gW := k; rw [this])
                    have VZ : Hid (Below u0.heap.size u0 ((wz.drewN u).setCell ⟨gW, gi.toNat, none⟩ (.bool true))) := (bl VU.out HZU.out).setCell (Nat.le_trans hU01 hgW) _
                    have KS := hd (same_of ((wz.drewN u).setCell ⟨gW, gi.toNat, none⟩ (.bool true)) _ pb D (takeF P gi) _ _ _ _ _ _ _ _ _ HTK.out aWS (some ⟨gW, 0, none⟩) aH2 aO2 aA2 aT2 cWS cWC cH2 cO2 cA2 cT2 P.st.length P.sec.length P.held.length P.ord.length P.at_.length P.starts.length (HMR0.out.below VZ.out) SX.out.rd SW.out.rd (LH.out.rd.below (bl HB2.out VZ.out)) (LO.out.rd.below (bl HB2.out VZ.out)) (LA.out.rd.below (bl HB2.out VZ.out)) (LT.out.rd.below (bl HB2.out VZ.out)))
                    have BE := hd (CL.out.trans ((bl HB2.out VZ.out).mono CL.out.size))
                    as_aux_lemma =>
                      go_wp2_with fail
                      refine Calls.mono KS.out ?_
                      rintro e u9 ⟨rfl, hb9⟩
                      have B9 := hd (bl BE.out hb9)
                      clear hb9 KS
                      go_wp2_with fail
                      go_ret
                      exact ⟨rfl, B9.out⟩
            · have ceb : (P.act == (P.st.length : Int) - P.ver) = false := beq_eq_false_iff_ne.2 ce
              have ERN := hd (ANS.out.2.1 cb (by rw [HV.out.ordl]; exact ce))
              clear ce ANS HB1
              obtain rfl : r = none := by rw [← ER.out]; exact ERN.out
              obtain rfl : gi = 0 := EGI.out.symm
              obtain rfl : gk = false := EGK.out.symm
              have HZ := hd (below_drewN HLz.out u)
              have cb2 : decide (0 ≤ b) = false := by simp; omega
              have KS := hd (same_of (wz.drewN u) _ pb D P _ _ _ _ _ _ _ _ _ (Pk.ext' rfl rfl rfl rfl rfl rfl rfl rfl rfl) aWS aWC aH2 aO2 aA2 aT2 cWS cWC cH2 cO2 cA2 cT2 P.st.length P.sec.length P.held.length P.ord.length P.at_.length P.starts.length (HMR.out.below HZ.out) (OWS.out.rd.below HZ.out) (OWC.out.rd.below HZ.out) (LH.out.rd.below (bl HLU.out HZ.out)) (LO.out.rd.below (bl HLU.out HZ.out)) (LA.out.rd.below (bl HLU.out HZ.out)) (LT.out.rd.below (bl HLU.out HZ.out)))
              have BE := hd (bl BU.out HZ.out)
              as_aux_lemma =>
                go_wp2_with fail
                refine Calls.mono KS.out ?_
                rintro e u9 ⟨rfl, hb9⟩
                have B9 := hd (bl BE.out hb9)
                clear hb9 KS
                go_wp2_with fail
                go_ret
                exact ⟨rfl, B9.out⟩
          · have cb' : decide (b < 0) = false := by simp; omega
            have cb0 : 0 ≤ b := by omega
            have ERS := hd (ANS.out.1 cb0)
            clear ANS
            have hst0 : Hid (b < P.st.length ∧ P.st[b.toNat]? = some 0) := by
              rcases HB1.out with ⟨e, _⟩ | ⟨_, h1, h2, _⟩
              · exact absurd e (by omega)
              · refine ⟨h1, ?_⟩
                obtain ⟨y, hy⟩ := some_of (l := P.st) (show b.toNat < P.st.length by omega)
                unfold c1F at h2
                rw [getD_of hy] at h2
                simp only [Bool.and_eq_true, beq_iff_eq] at h2
                rw [hy, h2.1.1]
            clear HB1
            obtain rfl : r = some b := by rw [← ER.out]; exact ERS.out
            obtain rfl : gi = b := EGI.out.symm
            obtain rfl : gk = true := EGK.out.symm
            have hbn := hst0.out.1
            obtain ⟨bS, oS, y, eS, ey, gy⟩ := (LS.out.rd.below HLZ.out).u8 (i := gi.toNat) (by omega)
            rw [hst0.out.2] at ey
            cases ey
            have A1 := hd eS
            clear eS
            obtain rfl := A1.out
            clear A1
            have cb2 : decide (0 ≤ gi) = true := by simp; exact cb0
            have HZU := hd (below_drewN HLz.out u)
            obtain ⟨gW, egW, hgW, _, fW, ⟨vw, hvw, cW⟩, _⟩ := (OWS.out.below HLz.out).at (i := gi.toNat) (by omega)
            have A2 := hd egW
            clear hvw egW
            obtain rfl := A2.out
            clear A2
            have HTK : Hid (takeF P gi = ⟨P.st.set gi.toNat 1, P.ver, P.act + 1, P.sec, P.que, P.held, P.ord, P.at_, P.starts⟩) := by
              show _ = _
              unfold takeF
              rw [if_pos (getD_of hst0.out.2)]
            have SW : Hid (Own ((wz.drewN u).setCell ⟨gW, gi.toNat, none⟩ (.int .u8 1)) u0.heap.size 5 (some ⟨gW, 0, none⟩) P.st.length cWS (u8s (P.st.set gi.toNat 1))) := by
              obtain ⟨g', eg', _, _, _, _, set'⟩ := (OWS.out.below HZU.out).at (i := gi.toNat) (by omega)
              cases eg'
              have := set' (.int .u8 1)
              rw [set_u8s] at this
              exact this
            have SX : Hid (Own ((wz.drewN u).setCell ⟨gW, gi.toNat, none⟩ (.int .u8 1)) u1.heap.size 4 aWC P.sec.length cWC (bools P.sec)) := (OWC.out.below HZU.out).fr (fr_setCell (wz.drewN u) gW gi.toNat (.int .u8 1)) fun b e k => (OWC.out.below HZU.out).ty (OWS.out.below HZU.out) (by decide) b e (by have : b = gW := k; rw [this])
            have VZ : Hid (Below u0.heap.size u0 ((wz.drewN u).setCell ⟨gW, gi.toNat, none⟩ (.int .u8 1))) := (bl VU.out HZU.out).setCell hgW _
            have KS := hd (same_of ((wz.drewN u).setCell ⟨gW, gi.toNat, none⟩ (.int .u8 1)) _ pb D (takeF P gi) _ _ _ _ _ _ _ _ _ HTK.out (some ⟨gW, 0, none⟩) aWC aH2 aO2 aA2 aT2 cWS cWC cH2 cO2 cA2 cT2 P.st.length P.sec.length P.held.length P.ord.length P.at_.length P.starts.length (HMR0.out.below VZ.out) SW.out.rd SX.out.rd (LH.out.rd.below (bl HB2.out VZ.out)) (LO.out.rd.below (bl HB2.out VZ.out)) (LA.out.rd.below (bl HB2.out VZ.out)) (LT.out.rd.below (bl HB2.out VZ.out)))
            have BE := hd (CL.out.trans ((bl HB2.out VZ.out).mono CL.out.size))
            as_aux_lemma =>
              go_wp2_with fail
              refine Calls.mono KS.out ?_
              rintro e u9 ⟨rfl, hb9⟩
              have B9 := hd (bl BE.out hb9)
              clear hb9 KS
              go_wp2_with fail
              go_ret
              exact ⟨rfl, B9.out⟩
end Go.Proofs.Qxb6602173a
