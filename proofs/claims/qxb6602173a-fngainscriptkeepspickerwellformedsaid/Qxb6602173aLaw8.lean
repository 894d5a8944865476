import Derived.Test.Qxb6602173aPlain8
import Derived.Test.Qxb6602173aGlue
import Derived.Test.Qxb6602173aGet
namespace Go.Proofs.Qxb6602173a
open Go.RowKit
set_option linter.unusedVariables false
set_option linter.unusedSimpArgs false

theorem cell_at {w w1 : World} (h : Below w.heap.size w w1) {p o : Nat} {v : Value} (hc : w.cell? ⟨p, o, none⟩ = some v) : w1.cell? ⟨p, o, none⟩ = some v := (h.cell (p := ⟨p, o, none⟩) (cell_lt hc)).trans hc
theorem below_of_B {B BW : Nat} {w0 w1 w2 : World} (h : Below B w0 w1) (k : Below BW w1 w2) (hB : B ≤ BW) : Below B w0 w2 := h.trans (k.mono hB)

set_option maxHeartbeats 8000000 in
set_option maxRecDepth 100000 in
theorem law8 (P : Pk) (aS aC aH aO aA aT aR : Option Addr) (cS cC cH cO cA cT cR : Nat) (scr : List Int) (w : World)
    (hS : Rd0 w aS P.st.length (u8s P.st)) (hC : Rd0 w aC P.sec.length (bools P.sec)) (hH : Rd0 w aH P.held.length (ints P.held)) (hO : Rd0 w aO P.ord.length (ints P.ord)) (hA : Rd0 w aA P.at_.length (ints P.at_)) (hT : Rd0 w aT P.starts.length (ints P.starts)) (hR : Rd0 w aR scr.length (ints scr)) :
    Calls Try.prog 8 #[.slice aS P.st.length cS, .int .i64 P.ver, .int .i64 P.act, .slice aC P.sec.length cC, .int .i64 P.que, .slice aH P.held.length cH, .slice aO P.ord.length cO, .slice aA P.at_.length cA, .slice aT P.starts.length cT, .slice aR scr.length cR] w
      fun e w' => e = .returned (.bool true) ∧ Below w.heap.size w w' := by
  have KZ := hd (zz28_any aS P.st.length cS P.ver P.act aC P.sec.length cC P.que aH P.held.length cH aO P.ord.length cO aA P.at_.length cA aT P.starts.length cT aR scr.length cR w hS.2.1 hC.2.1 hH.2.1 hO.2.1 hA.2.1 hT.2.1 hR.2.1)
  have QS := hd hS
  have QC := hd hC
  have QH := hd hH
  have QO := hd hO
  have QA := hd hA
  have QT := hd hT
  have QR := hd hR
  clear hS hC hH hO hA hT hR
  go_enter Try.func8, Try.ntmps8
  go_wp2_with fail
  refine Calls.mono KZ.out ?_
  rintro e w' ⟨rfl, hw⟩
  rw [hw]
  clear hw w' KZ
  by_cases hz : P.st.length + P.sec.length + P.held.length + P.ord.length + P.at_.length + P.starts.length + scr.length ≤ 1048576
  case neg =>
    rw [sumOk_f hz]
    clear hz
    go_wp2_with fail
    go_ret
    exact ⟨rfl, Below.refl _ _⟩
  rw [sumOk_t hz]
  by_cases h8 : P.st.length + P.sec.length + 8 * (P.held.length + P.ord.length + P.at_.length + P.starts.length + scr.length) ≤ 1048576
  case neg =>
    go_wp2_with fail
    go_ret
    exact ⟨rfl, Below.refl _ _⟩
  have RS := hd (QS.out.rd (by omega))
  have RC := hd (QC.out.rd (by omega))
  have RH := hd (QH.out.rd (by omega))
  have RO := hd (QO.out.rd (by omega))
  have RA := hd (QA.out.rd (by omega))
  have RT := hd (QT.out.rd (by omega))
  have RR := hd (QR.out.rd (by omega))
  clear QS QC QH QO QA QT QR
  go_wp2_with fail
  by_cases hv : Valid P
  case neg =>
    refine Calls.mono (valid_no P aS aC aH aO aA aT cS cC cH cO cA cT _ RS.out RC.out RH.out RO.out RA.out RT.out hv) ?_
    rintro e w1 ⟨rfl, hb1⟩
    have B1 := hd hb1
    clear hb1 hv
    go_wp2_with fail
    go_ret
    exact ⟨rfl, B1.out⟩
  refine Calls.mono (valid_yes P aS aC aH aO aA aT cS cC cH cO cA cT _ RS.out RC.out RH.out RO.out RA.out RT.out hv) ?_
  rintro e w1 ⟨rfl, hb1⟩
  have B1 := hd hb1
  have HV := hd hv
  clear hb1 hv
  have RR1 := hd (RR.out.below B1.out)
  have hsr : scr.length ≤ 1048576 := by omega
  have hsn : P.st.length ≤ 1048576 := by omega
  go_wp2_with fail
  go_loop [113] (fun i => ∃ k : Nat, k ≤ scr.length ∧ i = .int .i64 k ∧ Hid (∀ y ∈ scr.take k, 0 ≤ y ∧ y < P.st.length)) (fun i => scr.length - (intOf i).toNat)
  case atStart => exact ⟨0, Nat.zero_le _, rfl, by simp [Hid]⟩
  case round =>
    obtain ⟨k, hk, rfl, HI⟩ := hrel
    by_cases hlt : k < scr.length
    · obtain ⟨b, o, y, rfl, e1, g1⟩ := RR1.out.int hlt
      have E1 := hd e1
      clear e1
      by_cases c1 : y < 0
      · go_wp2
        go_ret
        exact ⟨rfl, B1.out⟩
      by_cases c2 : (P.st.length : Int) ≤ y
      · go_wp2
        go_ret
        exact ⟨rfl, B1.out⟩
      have c1' : 0 ≤ y := by omega
      have c2' : y < (P.st.length : Int) := by omega
      clear c1 c2
      go_wp2
      go_round
      case rel => exact ⟨k + 1, by omega, by go_num, by show ∀ z ∈ _, _; rw [take_succ_of E1.out]; intro z hz; rw [List.mem_append] at hz; rcases hz with h | h; exact HI.out z h; simp at h; subst h; exact ⟨c1', c2'⟩⟩
      case measure => simp [intOf]; omega
    · have HA : Hid (∀ y ∈ scr, 0 ≤ y ∧ y < P.st.length) := by
        have := HI.out
        rw [List.take_of_length_le (by omega)] at this
        exact this
      clear HI
      have HN : Hid (P.st.length ≤ 1048576) := hsn
      have HK : Hid (P.starts.length + scr.length ≤ 2097152) := by show _ ≤ _; omega
      have C1 := hd B1.out
      go_wp2_with fail
      refine Calls.mono (cloneU8_any aS P.st.length cS P.st w1 (RS.out.below C1.out)) ?_
      rintro e w2 ⟨aS2, cS2, rfl, hO2, hb2⟩
      have OS := hd hO2
      have B2 := hd hb2
      clear hO2 hb2
      have C2 := hd (bl C1.out B2.out)
      go_wp2_with fail
      refine Calls.mono (cloneBools_any aC P.sec.length cC P.sec w2 (RC.out.below C2.out)) ?_
      rintro e w3 ⟨aC2, cC2, rfl, hO2, hb2⟩
      have OC := hd hO2
      have B3 := hd hb2
      clear hO2 hb2
      have C3 := hd (bl C2.out B3.out)
      go_wp2_with fail
      refine Calls.mono (cloneInts_any aH P.held.length cH P.held w3 (RH.out.below C3.out)) ?_
      rintro e w4 ⟨aH2, cH2, rfl, hO2, hb2⟩
      have OH := hd hO2
      have B4 := hd hb2
      clear hO2 hb2
      have C4 := hd (bl C3.out B4.out)
      go_wp2_with fail
      refine Calls.mono (cloneInts_any aO P.ord.length cO P.ord w4 (RO.out.below C4.out)) ?_
      rintro e w5 ⟨aO2, cO2, rfl, hO2, hb2⟩
      have OO := hd hO2
      have B5 := hd hb2
      clear hO2 hb2
      have C5 := hd (bl C4.out B5.out)
      go_wp2_with fail
      refine Calls.mono (cloneInts_any aA P.at_.length cA P.at_ w5 (RA.out.below C5.out)) ?_
      rintro e w6 ⟨aA2, cA2, rfl, hO2, hb2⟩
      have OA := hd hO2
      have B6 := hd hb2
      clear hO2 hb2
      have C6 := hd (bl C5.out B6.out)
      go_wp2_with fail
      refine Calls.mono (cloneInts_any aT P.starts.length cT P.starts w6 (RT.out.below C6.out)) ?_
      rintro e w7 ⟨aT2, cT2, rfl, hO2, hb2⟩
      have OT := hd hO2
      have B7 := hd hb2
      clear hO2 hb2
      have C7 := hd (bl C6.out B7.out)
      go_wp2_with fail
      refine Calls.mono (cloneInts_any aR scr.length cR scr w7 (RR.out.below C7.out)) ?_
      rintro e w8 ⟨aR2, cR2, rfl, hO2, hb2⟩
      have OR := hd hO2
      have B8 := hd hb2
      clear hO2 hb2
      have C8 := hd (bl C7.out B8.out)
      have X7 := hd B8.out
      have X6 := hd (bl B7.out X7.out)
      have X5 := hd (bl B6.out X6.out)
      have X4 := hd (bl B5.out X5.out)
      have X3 := hd (bl B4.out X4.out)
      have X2 := hd (bl B3.out X3.out)
      have LS := hd (OS.out.below X2.out)
      have LC := hd (OC.out.below X3.out)
      have LH := hd (OH.out.below X4.out)
      have LO := hd (OO.out.below X5.out)
      have LA := hd (OA.out.below X6.out)
      have LT := hd (OT.out.below X7.out)
      have LR := hd OR.out
      have CL := hd C8.out
      clear RS RC RH RO RA RT RR RR1 OS OC OH OO OA OT OR B2 B3 B4 B5 B6 B7 B8 C1 C2 C3 C4 C5 C6 C7 C8 X2 X3 X4 X5 X6 X7
      have E8 := hd (Below.refl w8.heap.size w8)
      go_wp2_with fail
      refine Calls.mono (cloneU8_any aS2 P.st.length cS2 P.st w8 (LS.out.rd.below E8.out)) ?_
      rintro e w9 ⟨aS3, cS3, rfl, hO2, hb2⟩
      have IS := hd hO2
      have B9 := hd hb2
      clear hO2 hb2
      have E9 := hd (bl E8.out B9.out)
      go_wp2_with fail
      refine Calls.mono (cloneBools_any aC2 P.sec.length cC2 P.sec w9 (LC.out.rd.below E9.out)) ?_
      rintro e w10 ⟨aC3, cC3, rfl, hO2, hb2⟩
      have IC := hd hO2
      have B10 := hd hb2
      clear hO2 hb2
      have E10 := hd (bl E9.out B10.out)
      go_wp2_with fail
      refine Calls.mono (cloneInts_any aH2 P.held.length cH2 P.held w10 (LH.out.rd.below E10.out)) ?_
      rintro e w11 ⟨aH3, cH3, rfl, hO2, hb2⟩
      have IH := hd hO2
      have B11 := hd hb2
      clear hO2 hb2
      have E11 := hd (bl E10.out B11.out)
      go_wp2_with fail
      refine Calls.mono (cloneInts_any aO2 P.ord.length cO2 P.ord w11 (LO.out.rd.below E11.out)) ?_
      rintro e w12 ⟨aO3, cO3, rfl, hO2, hb2⟩
      have JO := hd hO2
      have B12 := hd hb2
      clear hO2 hb2
      have E12 := hd (bl E11.out B12.out)
      go_wp2_with fail
      refine Calls.mono (cloneInts_any aA2 P.at_.length cA2 P.at_ w12 (LA.out.rd.below E12.out)) ?_
      rintro e w13 ⟨aA3, cA3, rfl, hO2, hb2⟩
      have IA := hd hO2
      have B13 := hd hb2
      clear hO2 hb2
      have E13 := hd (bl E12.out B13.out)
      go_wp2_with fail
      refine Calls.mono (cloneInts_any aT2 P.starts.length cT2 P.starts w13 (LT.out.rd.below E13.out)) ?_
      rintro e w14 ⟨aT3, cT3, rfl, hO2, hb2⟩
      have IT := hd hO2
      have B14 := hd hb2
      clear hO2 hb2
      have E14 := hd (bl E13.out B14.out)
      have Y13 := hd B14.out
      have Y12 := hd (bl B13.out Y13.out)
      have Y11 := hd (bl B12.out Y12.out)
      have Y10 := hd (bl B11.out Y11.out)
      have Y9 := hd (bl B10.out Y10.out)
      go_wp2_with fail
      refine Calls.mono (make_any aS3 aC3 aH3 aO3 aA3 aT3 P.st.length cS3 P.sec.length cC3 P.held.length cH3 P.ord.length cO3 P.at_.length cA3 P.starts.length cT3 P.ver P.act P.que P.st w14 (IS.out.rd.below Y9.out)) ?_
      rintro e w15 ⟨pb, rfl, hbx, hst, hb15, hpb⟩
      have B15 := hd hb15
      have hM : Hid (PM w15 w8.heap.size pb ⟨some ⟨w14.heap.size, 0, none⟩, aC3, aH3, aO3, aA3, aT3, P.st.length, cC3, cH3, cO3, cA3, cT3⟩ P) := by
        have s9 := B9.out.size
        have s10 := B10.out.size
        have s11 := B11.out.size
        have s12 := B12.out.size
        have s13 := B13.out.size
        have s14 := B14.out.size
        refine PM.build hbx (by omega) hst (by omega) (by have := HN.out; omega) ((IC.out.below (bl Y10.out B15.out)).mono (by omega)) ((IH.out.below (bl Y11.out B15.out)).mono (by omega)) ((JO.out.below (bl Y12.out B15.out)).mono (by omega)) ((IA.out.below (bl Y13.out B15.out)).mono (by omega)) ((IT.out.below B15.out).mono (by omega)) ?_ ?_ ?_ ?_ ?_ ?_
        · exact apt_lt IH.out JO.out (Nat.le_refl _)
        · exact apt_lt IH.out IA.out (by omega)
        · exact apt_lt IH.out IT.out (by omega)
        · exact apt_lt JO.out IA.out (Nat.le_refl _)
        · exact apt_lt JO.out IT.out (by omega)
        · exact apt_lt IA.out IT.out (Nat.le_refl _)
      have E15 := hd (bl E14.out B15.out)
      generalize (⟨some ⟨w14.heap.size, 0, none⟩, aC3, aH3, aO3, aA3, aT3, P.st.length, cC3, cH3, cO3, cA3, cT3⟩ : Ad) = D at hM
      clear hbx hst hb15 hpb IS IC IH JO IA IT B9 B10 B11 B12 B13 B14 B15 E8 E9 E10 E11 E12 E13 E14 Y9 Y10 Y11 Y12 Y13
      have HB0 : Hid (w8.heap.size ≤ w15.heap.size) := E15.out.size
      go_wp2_with fail
      go_loopw [157] (fun i wr => ∃ (k : Nat) (D' : Ad), k ≤ scr.length ∧ i = .int .i64 k ∧ Hid (PM wr w8.heap.size pb D' (gains P (scr.take k))) ∧ Hid (Below w8.heap.size w8 wr)) (fun i _ => scr.length - (intOf i).toNat)
      case atStart => exact ⟨0, D, Nat.zero_le _, rfl, hM, E15⟩
      case round =>
        obtain ⟨k, D', hk2, rfl, HG, HE⟩ := hrel
        clear hM E15 HB0
        have HR := hd (run_of HV.out (scr.take k) fun y hy => HA.out y (List.mem_of_mem_take hy))
        by_cases hlt2 : k < scr.length
        · obtain ⟨b, o, y, rfl, e1, g1⟩ := (LR.out.rd.below HE.out).int hlt2
          have E1 := hd e1
          have hy := HA.out y (List.mem_of_getElem? e1)
          clear e1
          have GK := hd (gain_pm wr w8.heap.size pb D' _ y HG.out (HR.out.v.gainOk hy.1 (by rw [HR.out.st]; exact hy.2) (by have := HR.out.k; rw [List.length_take] at this; have := HK.out; omega)) HE.out.size)
          go_wp2_with ((go_at_call 27; refine Calls.mono GK.out ?_; rintro e w20 ⟨rfl, D2, hm2, hf2⟩; have HM2 := hd hm2; have HF2 := hd hf2; clear hm2 hf2))
          go_roundw
          case rel => exact ⟨k + 1, D2, by omega, by go_num, by show PM _ _ _ _ _; rw [take_succ_of E1.out, gains_snoc]; exact HM2.out, HE.out.trans (HF2.out.below (B := w8.heap.size) fun m hm => ⟨by have := HE.out.size; omega, by omega⟩)⟩
          case measure => simp [intOf]; omega
        · have HR2 : Hid (Run P scr (gains P scr)) := run_of HV.out scr HA.out
          have HG2 : Hid (PM wr w8.heap.size pb D' (gains P scr)) := by
            have := HG.out
            rw [List.take_of_length_le (by omega)] at this
            exact this
          clear HG HR
          go_wp2_with fail
          refine Calls.mono (cloneInts_any aH2 P.held.length cH2 P.held wr (LH.out.rd.below HE.out)) ?_
          rintro e w21 ⟨aW, cW, rfl, hO2, hb2⟩
          have OW := hd hO2
          have B21 := hd hb2
          clear hO2 hb2
          have HE2 := hd (bl HE.out B21.out)
          have HBW : Hid (w8.heap.size ≤ wr.heap.size) := HE.out.size
          have hWB := B21.out.size
          obtain ⟨BW, hBW⟩ : ∃ b, wr.heap.size = b := ⟨_, rfl⟩
          rw [hBW] at OW B21 HBW hWB
          have EBW := hd hBW
          clear HE hBW
          go_wp2_with fail
          go_loopw [169] (fun i w22 => ∃ k : Nat, k ≤ scr.length ∧ i = .int .i64 k ∧ Hid (Own w22 BW 3 aW P.held.length cW (ints (bumps P.st P.held (scr.take k)))) ∧ Hid (Below BW w21 w22)) (fun i _ => scr.length - (intOf i).toNat)
          case atStart => exact ⟨0, Nat.zero_le _, rfl, OW, Below.refl _ _⟩
          case round =>
            obtain ⟨k, hk3, rfl, HO, HL⟩ := hrel
            clear OW
            have HLW := hd (below_of_B HE2.out HL.out HBW.out)
            by_cases hlt3 : k < scr.length
            · obtain ⟨b, o, y, rfl, e1, g1⟩ := (LR.out.rd.below HLW.out).int hlt3
              have E1 := hd e1
              have hy := HA.out y (List.mem_of_getElem? e1)
              clear e1
              have hy0 := hy.1
              have hy1 := hy.2
              clear hy
              obtain ⟨bS, oS, sy, rfl, e2, g2⟩ := (LS.out.rd.below HLW.out).u8 (i := y.toNat) (by omega)
              have E2 := hd e2
              clear e2
              by_cases cs : sy = 2
              · subst cs
                have EB : Hid (bumps P.st P.held (scr.take (k + 1)) = bumps P.st P.held (scr.take k)) := by
                  show _ = _
                  rw [take_succ_of E1.out, bumps_snoc]
                  unfold bump
                  rw [if_pos (getD_of E2.out)]
                go_wp2
                go_roundw
                case rel => exact ⟨k + 1, by omega, by go_num, by show Own _ _ _ _ _ _ _; rw [EB.out]; exact HO.out, HL⟩
                case measure => simp [intOf]; omega
              · have hsb : (sy != 2) = true := bne_iff_ne.2 cs
                have hyh : y < (P.held.length : Int) := by rw [HV.out.held]; exact hy1
                obtain ⟨g, eg, hgB, hgl, fz, ⟨v, hv, cv⟩, hset⟩ := HO.out.at (i := y.toNat) (by omega)
                have hvv : v = .int .i64 (heldAt (bumps P.st P.held (scr.take k)) y) := by
                  rw [ints, List.getElem?_map, Option.map_eq_some_iff] at hv
                  obtain ⟨z, hz, rfl⟩ := hv
                  unfold heldAt
                  rw [getD_of hz]
                subst hvv
                have hsm := (run_of HV.out (scr.take k) fun y hy => HA.out y (List.mem_of_mem_take hy)).small hy0 hy1 (fun e => cs (by rw [E2.out] at e; exact Option.some.inj e))
                rw [List.length_take] at hsm
                have EB : Hid (bumps P.st P.held (scr.take (k + 1)) = (bumps P.st P.held (scr.take k)).set y.toNat (heldAt (bumps P.st P.held (scr.take k)) y + 1)) := by
                  show _ = _
                  rw [take_succ_of E1.out, bumps_snoc]
                  unfold bump
                  rw [if_neg (by rw [getD_of E2.out]; exact cs)]
                obtain ⟨hv0, hhv⟩ : ∃ v0, heldAt (bumps P.st P.held (scr.take k)) y = v0 := ⟨_, rfl⟩
                rw [hhv] at cv hsm EB
                have hs0 := hsm.1
                have hs1 : hv0 ≤ 16777216 := by have := hsm.2; have := HK.out; omega
                have SET := hd (hset (.int .i64 (hv0 + 1)))
                rw [set_ints] at SET
                have EG := hd eg
                clear hv hsm hhv hset cs
                obtain rfl := EG.out
                clear eg EG
                go_wp2
                go_roundw
                case rel => exact ⟨k + 1, by omega, by go_num, by show Own _ _ _ _ _ _ _; rw [EB.out]; exact SET.out, HL.out.setCell (by exact hgB) _⟩
                case measure => simp [intOf]; omega
            · have HO2 : Hid (Own wr BW 3 aW P.held.length cW (ints (bumps P.st P.held scr))) := by
                have := HO.out
                rw [List.take_of_length_le (by omega)] at this
                exact this
              have HLX := hd (below_of_B HE2.out HL.out HBW.out)
              have HG4 := hd (HG2.out.below (by rw [EBW.out]; exact B21.out.trans HL.out))
              have BEND := hd (CL.out.trans (HLX.out.mono CL.out.size))
              clear HG2 HO HL HE2 B21 EBW
              generalize gains P scr = R at HG4 HR2
              obtain ⟨st', ver', act', sec', que', held', ord', at', starts'⟩ := R
              obtain rfl : st' = P.st := HR2.out.st
              obtain rfl : ver' = P.ver := HR2.out.ver
              obtain rfl : act' = P.act := HR2.out.act
              obtain rfl : sec' = P.sec := HR2.out.sec
              obtain rfl : que' = P.que := HR2.out.que
              have EH : Hid (held' = bumps P.st P.held scr) := HR2.out.held
              have LHd : Hid (held'.length = P.held.length) := by
                have h1 := HR2.out.v.held
                have h2 := HV.out.held
                exact h1.trans h2.symm
              have d0 : Hid (wr.cell? ⟨pb, 0, none⟩ = some (.slice D'.s P.st.length D'.cs)) := HG4.out.box.cells.1
              have d1 : Hid (wr.cell? ⟨pb, 1, none⟩ = some (.int .i64 P.ver)) := HG4.out.box.cells.2.1
              have d2 : Hid (wr.cell? ⟨pb, 2, none⟩ = some (.int .i64 P.act)) := HG4.out.box.cells.2.2.1
              have d3 : Hid (wr.cell? ⟨pb, 3, none⟩ = some (.slice D'.c P.sec.length D'.cc)) := HG4.out.box.cells.2.2.2.1
              have d4 : Hid (wr.cell? ⟨pb, 4, none⟩ = some (.int .i64 P.que)) := HG4.out.box.cells.2.2.2.2.1
              have d5 : Hid (wr.cell? ⟨pb, 5, none⟩ = some (.slice D'.h held'.length D'.ch)) := HG4.out.box.cells.2.2.2.2.2.1
              have d6 : Hid (wr.cell? ⟨pb, 6, none⟩ = some (.slice D'.o ord'.length D'.co)) := HG4.out.box.cells.2.2.2.2.2.2.1
              have d7 : Hid (wr.cell? ⟨pb, 7, none⟩ = some (.slice D'.a at'.length D'.ca)) := HG4.out.box.cells.2.2.2.2.2.2.2.1
              have d8 : Hid (wr.cell? ⟨pb, 8, none⟩ = some (.slice D'.t starts'.length D'.ct)) := HG4.out.box.cells.2.2.2.2.2.2.2.2
              have rS : Hid (Rd wr D'.s P.st.length (u8s P.st)) := HG4.out.s.rd
              have rC : Hid (Rd wr D'.c P.sec.length (bools P.sec)) := HG4.out.c.rd
              have rH : Hid (Rd wr D'.h held'.length (ints held')) := HG4.out.h.rd
              have rO : Hid (Rd wr D'.o ord'.length (ints ord')) := HG4.out.o.rd
              have rA : Hid (Rd wr D'.a at'.length (ints at')) := HG4.out.a.rd
              have rT : Hid (Rd wr D'.t starts'.length (ints starts')) := HG4.out.t.rd
              have rW : Hid (Rd wr aW held'.length (ints held')) := by
                have := HO2.out.rd
                rw [← LHd.out, ← EH.out] at this
                exact this
              have rLS : Hid (Rd wr aS2 P.st.length (u8s P.st)) := LS.out.rd.below HLX.out
              have rLC : Hid (Rd wr aC2 P.sec.length (bools P.sec)) := LC.out.rd.below HLX.out
              have VR : Hid (Valid ⟨P.st, P.ver, P.act, P.sec, P.que, held', ord', at', starts'⟩) := HR2.out.v
              rw [← LHd.out]
              clear HG4 HO2 HLX EH HR2
              go_wp2_with fail
              refine Calls.mono (states_any pb P.st.length D'.cs D'.s P.st wr d0.out rS.out) ?_
              rintro e v1 ⟨rfl, ho, hb⟩
              have K1 := hd hb
              have O1 := hd ho
              clear ho hb
              go_wp2_with fail
              refine Calls.mono (eqU8_same (some ⟨wr.heap.size, 0, none⟩) aS2 P.st.length P.st.length cS2 P.st v1 (O1.out.rd) (rLS.out.below K1.out)) ?_
              rintro e v2 ⟨rfl, hb⟩
              have K2 := hd (bl K1.out hb)
              clear hb
              go_wp2_with fail
              refine Calls.mono (get30 pb (.int .i64 P.ver) v2 (cell_at K2.out d1.out)) ?_
              rintro e w' ⟨rfl, hw⟩
              rw [hw]
              clear hw w'
              go_wp2_with fail
              refine Calls.mono (get31 pb (.int .i64 P.act) v2 (cell_at K2.out d2.out)) ?_
              rintro e w' ⟨rfl, hw⟩
              rw [hw]
              clear hw w'
              go_wp2_with fail
              refine Calls.mono (get33 pb (.slice D'.c P.sec.length D'.cc) v2 (cell_at K2.out d3.out)) ?_
              rintro e w' ⟨rfl, hw⟩
              rw [hw]
              clear hw w'
              go_wp2_with fail
              refine Calls.mono (eqBools_same D'.c aC2 P.sec.length D'.cc cC2 P.sec v2 (rC.out.below K2.out) (rLC.out.below K2.out)) ?_
              rintro e v3 ⟨rfl, hb⟩
              have K3 := hd (bl K2.out hb)
              clear hb
              go_wp2_with fail
              refine Calls.mono (get34 pb (.int .i64 P.que) v3 (cell_at K3.out d4.out)) ?_
              rintro e w' ⟨rfl, hw⟩
              rw [hw]
              clear hw w'
              go_wp2_with fail
              refine Calls.mono (get36 pb (.slice D'.h held'.length D'.ch) v3 (cell_at K3.out d5.out)) ?_
              rintro e w' ⟨rfl, hw⟩
              rw [hw]
              clear hw w'
              go_wp2_with fail
              refine Calls.mono (eqInts_same D'.h aW held'.length D'.ch cW held' v3 (rH.out.below K3.out) (rW.out.below K3.out)) ?_
              rintro e v4 ⟨rfl, hb⟩
              have K4 := hd (bl K3.out hb)
              clear hb
              go_wp2_with fail
              refine Calls.mono (states_any pb P.st.length D'.cs D'.s P.st v4 (cell_at K4.out d0.out) (rS.out.below K4.out)) ?_
              rintro e v5 ⟨rfl, ho, hb⟩
              have K5 := hd (bl K4.out hb)
              have O5 := hd ho
              clear ho hb
              go_wp2_with fail
              refine Calls.mono (get30 pb (.int .i64 P.ver) v5 (cell_at K5.out d1.out)) ?_
              rintro e w' ⟨rfl, hw⟩
              rw [hw]
              clear hw w'
              go_wp2_with fail
              refine Calls.mono (get31 pb (.int .i64 P.act) v5 (cell_at K5.out d2.out)) ?_
              rintro e w' ⟨rfl, hw⟩
              rw [hw]
              clear hw w'
              go_wp2_with fail
              refine Calls.mono (get33 pb (.slice D'.c P.sec.length D'.cc) v5 (cell_at K5.out d3.out)) ?_
              rintro e w' ⟨rfl, hw⟩
              rw [hw]
              clear hw w'
              go_wp2_with fail
              refine Calls.mono (get36 pb (.slice D'.h held'.length D'.ch) v5 (cell_at K5.out d5.out)) ?_
              rintro e w' ⟨rfl, hw⟩
              rw [hw]
              clear hw w'
              go_wp2_with fail
              refine Calls.mono (get37 pb (.slice D'.o ord'.length D'.co) v5 (cell_at K5.out d6.out)) ?_
              rintro e w' ⟨rfl, hw⟩
              rw [hw]
              clear hw w'
              go_wp2_with fail
              refine Calls.mono (get38 pb (.slice D'.a at'.length D'.ca) v5 (cell_at K5.out d7.out)) ?_
              rintro e w' ⟨rfl, hw⟩
              rw [hw]
              clear hw w'
              go_wp2_with fail
              refine Calls.mono (get39 pb (.slice D'.t starts'.length D'.ct) v5 (cell_at K5.out d8.out)) ?_
              rintro e w' ⟨rfl, hw⟩
              rw [hw]
              clear hw w'
              go_wp2_with fail
              refine Calls.mono (valid_yes ⟨P.st, P.ver, P.act, P.sec, P.que, held', ord', at', starts'⟩ (some ⟨v4.heap.size, 0, none⟩) D'.c D'.h D'.o D'.a D'.t P.st.length D'.cc D'.ch D'.co D'.ca D'.ct v5 O5.out.rd (rC.out.below K5.out) (rH.out.below K5.out) (rO.out.below K5.out) (rA.out.below K5.out) (rT.out.below K5.out) VR.out) ?_
              rintro e v6 ⟨rfl, hb⟩
              have K6 := hd (bl K5.out hb)
              clear hb
              go_wp2_with fail
              go_ret
              exact ⟨rfl, bl BEND.out K6.out⟩
end Go.Proofs.Qxb6602173a
