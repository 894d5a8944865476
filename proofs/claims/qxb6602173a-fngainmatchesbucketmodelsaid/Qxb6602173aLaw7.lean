import Derived.Test.Qxb6602173aPos7
namespace Go.Proofs.Qxb6602173a
open Go.RowKit
set_option linter.unusedVariables false
set_option linter.unusedSimpArgs false

set_option maxHeartbeats 8000000 in
set_option maxRecDepth 100000 in
theorem law7 (P : Pk) (aS aC aH aO aA aT : Option Addr) (cS cC cH cO cA cT : Nat) (x : Int) (w : World)
    (hS : Rd0 w aS P.st.length (u8s P.st)) (hC : Rd0 w aC P.sec.length (bools P.sec)) (hH : Rd0 w aH P.held.length (ints P.held)) (hO : Rd0 w aO P.ord.length (ints P.ord)) (hA : Rd0 w aA P.at_.length (ints P.at_)) (hT : Rd0 w aT P.starts.length (ints P.starts)) :
    Calls Try.prog 7 #[.slice aS P.st.length cS, .int .i64 P.ver, .int .i64 P.act, .slice aC P.sec.length cC, .int .i64 P.que, .slice aH P.held.length cH, .slice aO P.ord.length cO, .slice aA P.at_.length cA, .slice aT P.starts.length cT, .int .i64 x] w
      fun e w' => e = .returned (.bool true) ∧ Below w.heap.size w w' := by
  have KZ := hd (zz26_any aS P.st.length cS P.ver P.act aC P.sec.length cC P.que aH P.held.length cH aO P.ord.length cO aA P.at_.length cA aT P.starts.length cT x w hS.2.1 hC.2.1 hH.2.1 hO.2.1 hA.2.1 hT.2.1)
  have QS := hd hS
  have QC := hd hC
  have QH := hd hH
  have QO := hd hO
  have QA := hd hA
  have QT := hd hT
  clear hS hC hH hO hA hT
  go_enter Try.func7, Try.ntmps7
  go_wp2_with fail
  refine Calls.mono KZ.out ?_
  rintro e w' ⟨rfl, hw⟩
  rw [hw]
  clear hw w' KZ
  by_cases hz : P.st.length + P.sec.length + P.held.length + P.ord.length + P.at_.length + P.starts.length ≤ 1048576
  case neg =>
    rw [sumOk_f hz]
    clear hz
    go_wp2_with fail
    go_ret
    exact ⟨rfl, Below.refl _ _⟩
  rw [sumOk_t hz]
  by_cases h8 : P.st.length + P.sec.length + 8 * (P.held.length + P.ord.length + P.at_.length + P.starts.length) ≤ 1048576
  case neg =>
    go_wp2_with fail
    go_ret
    exact ⟨rfl, Below.refl _ _⟩
  have RS := hd (QS.out.rd (by omega))
  have RC := hd (QC.out.rd (by omega))
  have RH := hd (QH.out.rd (by omega))
  have RO := hd (QO.out.rd (by omega))
  have RA := hd (QA.out.rd (by omega))
  have RT := hd (QT.out.rd (by omega))
  clear QS QC QH QO QA QT
  go_wp2_with fail
  by_cases hv : Valid P
  case neg =>
    refine Calls.mono (valid_no P aS aC aH aO aA aT cS cC cH cO cA cT _ RS.out RC.out RH.out RO.out RA.out RT.out hv) ?_
    rintro e w1 ⟨rfl, hb1⟩
    have B1 := hd hb1
    clear hb1 hv
    go_wp2_with fail
    go_ret
    exact ⟨rfl, B1.out⟩
  refine Calls.mono (valid_yes P aS aC aH aO aA aT cS cC cH cO cA cT _ RS.out RC.out RH.out RO.out RA.out RT.out hv) ?_
  rintro e w1 ⟨rfl, hb1⟩
  have B1 := hd hb1
  have HV := hd hv
  clear hb1 hv
  by_cases i1 : x < 0
  case pos =>
    go_wp2_with fail
    go_ret
    exact ⟨rfl, B1.out⟩
  by_cases i2 : (P.st.length : Int) ≤ x
  case pos =>
    go_wp2_with fail
    go_ret
    exact ⟨rfl, B1.out⟩
  have x0 : 0 ≤ x := by omega
  have x1 : x < (P.st.length : Int) := by omega
  clear i1 i2
  have HGO := hd (HV.out.gainOk x0 x1 (by omega))
  have HN : Hid (P.st.length ≤ 1048576) := by show _ ≤ _; omega
  have hkm : P.starts.length ≤ 1048576 := by omega
  have hlm : P.ord.length ≤ 1048576 := by omega
  have C1 := hd B1.out
  go_wp2_with fail
  refine Calls.mono (cloneU8_any aS P.st.length cS P.st w1 (RS.out.below C1.out)) ?_
  rintro e w2 ⟨aS2, cS2, rfl, hO2, hb2⟩
  have OS := hd hO2
  have B2 := hd hb2
  clear hO2 hb2
  have C2 := hd (bl C1.out B2.out)
  go_wp2_with fail
  refine Calls.mono (cloneBools_any aC P.sec.length cC P.sec w2 (RC.out.below C2.out)) ?_
  rintro e w3 ⟨aC2, cC2, rfl, hO2, hb2⟩
  have OC := hd hO2
  have B3 := hd hb2
  clear hO2 hb2
  have C3 := hd (bl C2.out B3.out)
  go_wp2_with fail
  refine Calls.mono (cloneInts_any aH P.held.length cH P.held w3 (RH.out.below C3.out)) ?_
  rintro e w4 ⟨aH2, cH2, rfl, hO2, hb2⟩
  have OH := hd hO2
  have B4 := hd hb2
  clear hO2 hb2
  have C4 := hd (bl C3.out B4.out)
  go_wp2_with fail
  refine Calls.mono (cloneInts_any aO P.ord.length cO P.ord w4 (RO.out.below C4.out)) ?_
  rintro e w5 ⟨aO2, cO2, rfl, hO2, hb2⟩
  have OO := hd hO2
  have B5 := hd hb2
  clear hO2 hb2
  have C5 := hd (bl C4.out B5.out)
  go_wp2_with fail
  refine Calls.mono (cloneInts_any aA P.at_.length cA P.at_ w5 (RA.out.below C5.out)) ?_
  rintro e w6 ⟨aA2, cA2, rfl, hO2, hb2⟩
  have OA := hd hO2
  have B6 := hd hb2
  clear hO2 hb2
  have C6 := hd (bl C5.out B6.out)
  go_wp2_with fail
  refine Calls.mono (cloneInts_any aT P.starts.length cT P.starts w6 (RT.out.below C6.out)) ?_
  rintro e w7 ⟨aT2, cT2, rfl, hO2, hb2⟩
  have OT := hd hO2
  have B7 := hd hb2
  clear hO2 hb2
  have C7 := hd (bl C6.out B7.out)
  have X6 := hd B7.out
  have X5 := hd (bl B6.out X6.out)
  have X4 := hd (bl B5.out X5.out)
  have X3 := hd (bl B4.out X4.out)
  have X2 := hd (bl B3.out X3.out)
  have LS := hd (OS.out.below X2.out)
  have LC := hd (OC.out.below X3.out)
  have LH := hd (OH.out.below X4.out)
  have LO := hd (OO.out.below X5.out)
  have LA := hd (OA.out.below X6.out)
  have LT := hd OT.out
  have CL := hd C7.out
  clear RS RC RH RO RA RT OS OC OH OO OA OT B2 B3 B4 B5 B6 B7 C1 C2 C3 C4 C5 C6 C7 X2 X3 X4 X5 X6
  have E7 := hd (Below.refl w7.heap.size w7)
  go_wp2_with fail
  refine Calls.mono (cloneU8_any aS2 P.st.length cS2 P.st w7 (LS.out.rd.below E7.out)) ?_
  rintro e w8 ⟨aS3, cS3, rfl, hO2, hb2⟩
  have IS := hd hO2
  have B8 := hd hb2
  clear hO2 hb2
  have E8 := hd (bl E7.out B8.out)
  go_wp2_with fail
  refine Calls.mono (cloneBools_any aC2 P.sec.length cC2 P.sec w8 (LC.out.rd.below E8.out)) ?_
  rintro e w9 ⟨aC3, cC3, rfl, hO2, hb2⟩
  have IC := hd hO2
  have B9 := hd hb2
  clear hO2 hb2
  have E9 := hd (bl E8.out B9.out)
  go_wp2_with fail
  refine Calls.mono (cloneInts_any aH2 P.held.length cH2 P.held w9 (LH.out.rd.below E9.out)) ?_
  rintro e w10 ⟨aH3, cH3, rfl, hO2, hb2⟩
  have IH := hd hO2
  have B10 := hd hb2
  clear hO2 hb2
  have E10 := hd (bl E9.out B10.out)
  go_wp2_with fail
  refine Calls.mono (cloneInts_any aO2 P.ord.length cO2 P.ord w10 (LO.out.rd.below E10.out)) ?_
  rintro e w11 ⟨aO3, cO3, rfl, hO2, hb2⟩
  have JO := hd hO2
  have B11 := hd hb2
  clear hO2 hb2
  have E11 := hd (bl E10.out B11.out)
  go_wp2_with fail
  refine Calls.mono (cloneInts_any aA2 P.at_.length cA2 P.at_ w11 (LA.out.rd.below E11.out)) ?_
  rintro e w12 ⟨aA3, cA3, rfl, hO2, hb2⟩
  have IA := hd hO2
  have B12 := hd hb2
  clear hO2 hb2
  have E12 := hd (bl E11.out B12.out)
  go_wp2_with fail
  refine Calls.mono (cloneInts_any aT2 P.starts.length cT2 P.starts w12 (LT.out.rd.below E12.out)) ?_
  rintro e w13 ⟨aT3, cT3, rfl, hO2, hb2⟩
  have IT := hd hO2
  have B13 := hd hb2
  clear hO2 hb2
  have E13 := hd (bl E12.out B13.out)
  have Y12 := hd B13.out
  have Y11 := hd (bl B12.out Y12.out)
  have Y10 := hd (bl B11.out Y11.out)
  have Y9 := hd (bl B10.out Y10.out)
  have Y8 := hd (bl B9.out Y9.out)
  go_wp2_with fail
  refine Calls.mono (make_any aS3 aC3 aH3 aO3 aA3 aT3 P.st.length cS3 P.sec.length cC3 P.held.length cH3 P.ord.length cO3 P.at_.length cA3 P.starts.length cT3 P.ver P.act P.que P.st w13 (IS.out.rd.below Y8.out)) ?_
  rintro e w14 ⟨pb, rfl, hbx, hst, hb14, hpb⟩
  have B14 := hd hb14
  have hM : Hid (PM w14 w7.heap.size pb ⟨some ⟨w13.heap.size, 0, none⟩, aC3, aH3, aO3, aA3, aT3, P.st.length, cC3, cH3, cO3, cA3, cT3⟩ P) := by
    have s8 := B8.out.size
    have s9 := B9.out.size
    have s10 := B10.out.size
    have s11 := B11.out.size
    have s12 := B12.out.size
    have s13 := B13.out.size
    refine PM.build hbx (by omega) hst (by omega) (by have := HN.out; omega) ((IC.out.below (bl Y9.out B14.out)).mono (by omega)) ((IH.out.below (bl Y10.out B14.out)).mono (by omega)) ((JO.out.below (bl Y11.out B14.out)).mono (by omega)) ((IA.out.below (bl Y12.out B14.out)).mono (by omega)) ((IT.out.below B14.out).mono (by omega)) ?_ ?_ ?_ ?_ ?_ ?_
    · exact apt_lt IH.out JO.out (Nat.le_refl _)
    · exact apt_lt IH.out IA.out (by omega)
    · exact apt_lt IH.out IT.out (by omega)
    · exact apt_lt JO.out IA.out (Nat.le_refl _)
    · exact apt_lt JO.out IT.out (by omega)
    · exact apt_lt IA.out IT.out (Nat.le_refl _)
  have E14 := hd (bl E13.out B14.out)
  generalize (⟨some ⟨w13.heap.size, 0, none⟩, aC3, aH3, aO3, aA3, aT3, P.st.length, cC3, cH3, cO3, cA3, cT3⟩ : Ad) = D at hM
  clear hbx hst hb14 hpb IS IC IH JO IA IT B8 B9 B10 B11 B12 B13 B14 E7 E8 E9 E10 E11 E12 E13 Y8 Y9 Y10 Y11 Y12
  go_wp2_with fail
  refine Calls.mono (gain_pm w14 w7.heap.size pb D P x hM.out HGO.out E14.out.size) ?_
  rintro e v0 ⟨rfl, D2, hM2, hf2⟩
  have HM2 := hd hM2
  have HB2 := hd (E14.out.trans (hf2.below (B := w7.heap.size) fun k hk => ⟨by have := E14.out.size; omega, by omega⟩))
  clear hM hM2 hf2 E14 HGO
  obtain ⟨bS, oS, y, eaS, ey, gy⟩ := (LS.out.rd.below HB2.out).u8 (i := x.toNat) (by omega)
  have EY := hd ey
  have EA := hd eaS
  clear ey eaS
  obtain rfl := EA.out
  clear EA
  by_cases i3 : y = 2
  case pos =>
    subst i3
    have ES := hd (gain_same (P := P) (i := x) EY.out)
    rw [ES.out] at HM2
    go_wp2_with fail
    refine Calls.mono (same_of v0 _ pb D2 P _ _ _ _ _ _ _ _ _ (Pk.ext' rfl rfl rfl rfl rfl rfl rfl rfl rfl) (some ⟨bS, oS, none⟩) aC2 aH2 aO2 aA2 aT2 cS2 cC2 cH2 cO2 cA2 cT2 P.st.length P.sec.length P.held.length P.ord.length P.at_.length P.starts.length HM2.out (LS.out.rd.below HB2.out) (LC.out.rd.below HB2.out) (LH.out.rd.below HB2.out) (LO.out.rd.below HB2.out) (LA.out.rd.below HB2.out) (LT.out.rd.below HB2.out)) ?_
    rintro e v1 ⟨rfl, hb⟩
    have BE := hd (bl (CL.out.trans (HB2.out.mono CL.out.size)) hb)
    clear hb
    go_wp2_with fail
    go_ret
    exact ⟨rfl, BE.out⟩
  have HST : Hid (P.st[x.toNat]? ≠ some 2) := fun e => i3 (by rw [EY.out] at e; exact Option.some.inj e)
  have i3b : (y == 2) = false := beq_eq_false_iff_ne.2 i3
  clear i3
  obtain ⟨qx, b, h, jl, gf⟩ := Gf.of HV.out x0 x1 HST.out
  have GF := hd gf
  clear gf
  have hhk := GF.out.hk
  have hbl : b < P.ord.length := lt_of GF.out.hj
  obtain ⟨F, hF⟩ : ∃ F, (gainF P x).ord = F := ⟨_, rfl⟩
  have EF := hd hF
  have LF : Hid (F.length = P.ord.length) := by show _ = _; rw [← EF.out]; exact GF.out.len
  clear hF
  obtain ⟨bH, oH, hv, eH, ehv, gH⟩ := (LH.out.rd.below HB2.out).int (i := x.toNat) (by have := HV.out.held; omega)
  have EHH := hd eH
  have hxh : x < (P.held.length : Int) := by have := HV.out.held; omega
  obtain rfl : hv = (h : Int) := by
    have : heldAt P.held x = hv := getD_of ehv
    rw [GF.out.hh] at this
    exact this.symm
  clear ehv eH
  obtain ⟨i0, hi, hz0, hz1, hz2⟩ := info_parts Try.info3
  obtain rfl := EHH.out
  clear EHH
  by_cases hk1 : h + 1 = P.starts.length
  · have hk1b : ((h : Int) + 1 == (P.starts.length : Int)) = true := beq_iff_eq.2 (by omega)
    have HK1 := hd hk1
    have hk1a : h + 1 ≤ P.starts.length := by omega
    have hk1c : P.starts.length ≤ h + 1 := by omega
    have EKN : Hid (kNew P h = (P.starts.length + 1)) := by show _ = _; unfold kNew; rw [if_pos HK1.out]
    go_wp2_with (first | (at_make; refine wpList_make_own _ rfl _ _ 24 rfl v0.heap.size 3 i0 (.int .i64 0) 1 Try.underlying24 hi hz0 hz1 .i64 .i64 (P.ord.length : Int) P.ord.length rfl rfl rfl (by rw [hz2]; omega) (by unfold maxLen; omega) (Nat.le_refl _) ?_; intro v1 ho hg; have OW0 := hd ((made_own ho).take0 F); have BB := hd (below_grown hg); clear ho hg))
    have HB3 := hd (HB2.out.trans (BB.out.mono HB2.out.size))
    have HBW : Hid (w7.heap.size ≤ v0.heap.size) := HB2.out.size
    have BB2 := hd BB.out.size
    have HM3 := hd HM2.out
    clear gH gy HB2 hk1
    obtain ⟨BW, hBW⟩ : ∃ b, v0.heap.size = b := ⟨_, rfl⟩
    rw [hBW] at OW0 BB HBW BB2 ⊢
    have EBW := hd hBW
    clear hBW HM2
    go_loopw [27, 28] (fun ov mv wr => ∃ m p : Nat, m ≤ (P.starts.length + 1) ∧ mv = .int .i64 m ∧ ov = .slice (some ⟨BW, 0, none⟩) p P.ord.length ∧ Hid (p = posG P h m) ∧ Hid (Own wr BW 3 (some ⟨BW, 0, none⟩) p P.ord.length (ints (F.take p))) ∧ Hid (Below BW v1 wr)) (fun _ mv _ => (P.starts.length + 1) - (intOf mv).toNat)
    case atStart => exact ⟨0, 0, Nat.zero_le _, rfl, rfl, by show _ = _; rw [posG_ne (by omega), HV.out.zero], OW0, Below.refl _ _⟩
    case round =>
      obtain ⟨m, p, hm, rfl, rfl, HPp, HO, HL⟩ := hrel
      clear OW0
      have HLW := hd (HB3.out.trans (HL.out.mono HBW.out))
      by_cases hmk : m < P.starts.length
      · have hmk2 : (m : Int) < (P.starts.length : Int) + 1 := by omega
        have hlo := lowF_le P.held P.ord (-1) m
        have hhi := lowF_le P.held P.ord (-1) (m + 1)
        have hlh := lowF_mono P.held P.ord m
        obtain ⟨bT, oT, sm, eT, est, gT⟩ := (LT.out.rd.below HLW.out).int hmk
        have ETT := hd eT
        rw [HV.out.begins hmk] at est
        cases est
        have KE : Hid (∀ u, Calls Try.prog 22 #[.slice aT2 P.starts.length cT2, .int .i64 (P.ord.length : Int), .int .i64 (m : Int)] (wr.drewN u) fun e w' => e = .returned (.int .i64 (lowF P.held P.ord (-1) (m + 1) : Int)) ∧ w' = wr.drewN u) := by
          intro u
          have := pkEnd_any (m : Int) aT2 P.ord.length P.starts.length cT2 P.starts (wr.drewN u) (by omega) (by omega) ((LT.out.rd.below HLW.out).drewN u)
          rw [HV.out.ends hmk] at this
          exact this
        have RO2 := hd (LO.out.rd.below HLW.out)
        obtain ⟨lo, hlo'⟩ : ∃ a, lowF P.held P.ord (-1) m = a := ⟨_, rfl⟩
        obtain ⟨hi', hhi'⟩ : ∃ a, lowF P.held P.ord (-1) (m + 1) = a := ⟨_, rfl⟩
        rw [hlo'] at gT hlo hlh
        rw [hhi'] at KE hhi hlh
        have ELO := hd hlo'
        have EHI := hd hhi'
        clear hlo' hhi'
        have hBwr : BW ≤ wr.heap.size := by have := HL.out.size; have := BB2.out; omega
        obtain rfl := ETT.out
        clear eT ETT
        by_cases c2 : m = h
        · obtain rfl : h = m := c2.symm
          clear c2
          have hp : p = lo := by rw [HPp.out, posG_ne (by omega), ELO.out]
          subst hp
          have hbh : hi' = b + 1 := by rw [← EHI.out]; exact GF.out.hb
          have hpb : p ≤ b := by have h1 := GF.out.place; have h2 := GF.out.qb; rw [ELO.out] at h1; omega
          have HBH := hd hbh
          have c2' : ((h : Int) == (h : Int)) = true := by simp
          obtain ⟨bO, oO, yl, eO, eyl, gO⟩ := RO2.out.int (i := hi' - 1) (by omega)
          have EOO := hd eO
          obtain rfl : yl = jl := by
            rw [HBH.out, Nat.add_sub_cancel, GF.out.hj] at eyl
            exact (Option.some.inj eyl).symm
          clear eyl
          obtain rfl := EOO.out
          clear eO EOO
          have t1 : ((hi' : Int) - 1).toNat = hi' - 1 := by omega
          have t2 : (0 : Int) ≤ (hi' : Int) - 1 := by omega
          have t3 : (hi' : Int) - 1 < (P.ord.length : Int) := by omega
          clear hbh
          have hbh1 : hi' ≤ b + 1 := by have := HBH.out; omega
          have hbh2 : b + 1 ≤ hi' := by have := HBH.out; omega
          go_wp2_with ((go_at_call 22; refine (KE.out 0).mono ?_; rintro e w' ⟨rfl, hw⟩; rw [hw]; clear hw w'; rw [World.drewN_zero]))
          go_loopw [27, 32] (fun ov qv wq => ∃ q : Nat, p ≤ q ∧ q ≤ b ∧ qv = .int .i64 q ∧ ov = .slice (some ⟨BW, 0, none⟩) q P.ord.length ∧ Hid (Own wq BW 3 (some ⟨BW, 0, none⟩) q P.ord.length (ints (F.take q))) ∧ Hid (Below BW wr wq)) (fun _ qv _ => hi' - (intOf qv).toNat)
          case atStart => exact ⟨p, Nat.le_refl _, hpb, rfl, rfl, HO, Below.refl _ _⟩
          case round =>
            obtain ⟨q, hq1, hq2, rfl, rfl, HOq, HLq⟩ := hrel
            by_cases hqh : q < b
            · obtain ⟨bO2, oO2, y2, eO, ey, gO2⟩ := (LO.out.rd.below (HLW.out.trans (HLq.out.mono HBW.out))).int (i := q) (by omega)
              cases eO
              have HFq := hd (GF.out.own hqh ey)
              rw [EF.out] at HFq
              clear ey
              have hBq : BW ≤ wr.heap.size := by have := HLq.out.size; omega
              have hqo : (q : Int) < (P.ord.length : Int) := by omega
              have hqs : (q : Int) < (hi' : Int) - 1 := by omega
              by_cases cy : y2 = x
              · have FY : Hid (F[q]? = some yl) := by show _ = _; rw [HFq.out, if_pos cy]
                have cyb : (y2 == x) = true := by simp [cy]
                clear cy HFq
                go_wp2_with (at_builtin; refine wpList_append_fits _ rfl _ _ 24 rfl BW 3 i0 1 Try.underlying24 hi hz1 BW q P.ord.length (ints (F.take q)) rfl (HOq.out.row.alloc _) ⟨wr.heap.size, 0, none⟩ 1 1 [.int .i64 yl] rfl rfl (cell_one_new _ _ _) (one_single _) (by omega) ?_; intro w30 ho hg; have OA2 := hd (app_own ho FY.out (by omega)); have AB := hd (app_below hg hBq (Nat.le_refl _)); clear ho hg)
                go_roundw
                case rel => exact ⟨q + 1, by omega, by omega, by go_num, rfl, OA2, HLq.out.trans AB.out⟩
                case measure => simp [intOf]; omega
              · have FY : Hid (F[q]? = some y2) := by show _ = _; rw [HFq.out, if_neg cy]
                have cyb : (y2 == x) = false := beq_eq_false_iff_ne.2 cy
                clear cy HFq
                go_wp2_with (at_builtin; refine wpList_append_fits _ rfl _ _ 24 rfl BW 3 i0 1 Try.underlying24 hi hz1 BW q P.ord.length (ints (F.take q)) rfl (HOq.out.row.alloc _) ⟨wr.heap.size, 0, none⟩ 1 1 [.int .i64 y2] rfl rfl (cell_one_new _ _ _) (one_single _) (by omega) ?_; intro w30 ho hg; have OA2 := hd (app_own ho FY.out (by omega)); have AB := hd (app_below hg hBq (Nat.le_refl _)); clear ho hg)
                go_roundw
                case rel => exact ⟨q + 1, by omega, by omega, by go_num, rfl, OA2, HLq.out.trans AB.out⟩
                case measure => simp [intOf]; omega
            · have hqe : q = b := by omega
              have HQE := hd hqe
              clear hqe
              have hqs : ¬ (q : Int) < (hi' : Int) - 1 := by omega
              go_wp2
              go_roundw
              case rel => exact ⟨h + 1, q, by omega, by go_num, rfl, by show _ = _; rw [posG_eq rfl, GF.out.hb, HQE.out]; rfl, HOq, HL.out.trans HLq.out⟩
              case measure => simp [intOf]; omega
        · have c2' : ((m : Int) == (h : Int)) = false := beq_eq_false_iff_ne.2 (by omega)
          by_cases c4 : m = h + 1
          · exfalso
            omega
          · have c4' : ((m : Int) == (h : Int) + 1) = false := beq_eq_false_iff_ne.2 (by omega)
            have hp : p = lo := by rw [HPp.out, posG_ne c4, ELO.out]
            have HNB : Hid (m < h ∨ h < m) := by show _ ∨ _; omega
            have HC4 := hd c4
            have HPL := hd hp
            clear c2 c4 hp
            go_wp2_with ((go_at_call 22; refine (KE.out 0).mono ?_; rintro e w' ⟨rfl, hw⟩; rw [hw]; clear hw w'; rw [World.drewN_zero]))
            go_loopw [27, 34] (fun ov qv wq => ∃ q : Nat, lo ≤ q ∧ q ≤ hi' ∧ qv = .int .i64 q ∧ ov = .slice (some ⟨BW, 0, none⟩) q P.ord.length ∧ Hid (Own wq BW 3 (some ⟨BW, 0, none⟩) q P.ord.length (ints (F.take q))) ∧ Hid (Below BW wr wq)) (fun _ qv _ => hi' - (intOf qv).toNat)
            case atStart => exact ⟨lo, Nat.le_refl _, hlh, rfl, by rw [HPL.out], by rw [← HPL.out]; exact HO, Below.refl _ _⟩
            case round =>
              obtain ⟨q, hq1, hq2, rfl, rfl, HOq, HLq⟩ := hrel
              by_cases hqh : q < hi'
              · obtain ⟨bO2, oO2, y2, eO, ey, gO2⟩ := (LO.out.rd.below (HLW.out.trans (HLq.out.mono HBW.out))).int (i := q) (by omega)
                have EOO := hd eO
                have FY : Hid (F[q]? = some y2) := by
                  show _ = _
                  rw [← EF.out, show (gainF P x).ord[q]? = P.ord[q]? from HNB.out.elim (fun a => GF.out.below a (by rw [EHI.out]; exact hqh)) (fun a => GF.out.above a (by rw [ELO.out]; exact hq1))]
                  exact ey
                clear ey
                obtain rfl := EOO.out
                clear eO EOO
                have hBq : BW ≤ wr.heap.size := by have := HLq.out.size; omega
                have hqo : (q : Int) < (P.ord.length : Int) := by omega
                have hqs : (q : Int) < (hi' : Int) := by omega
                go_wp2_with (at_builtin; refine wpList_append_fits _ rfl _ _ 24 rfl BW 3 i0 1 Try.underlying24 hi hz1 BW q P.ord.length (ints (F.take q)) rfl (HOq.out.row.alloc _) ⟨wr.heap.size, 0, none⟩ 1 1 [.int .i64 y2] rfl rfl (cell_one_new _ _ _) (one_single _) (by omega) ?_; intro w30 ho hg; have OA2 := hd (app_own ho FY.out (by omega)); have AB := hd (app_below hg hBq (Nat.le_refl _)); clear ho hg)
                go_roundw
                case rel => exact ⟨q + 1, by omega, by omega, by go_num, rfl, OA2, HLq.out.trans AB.out⟩
                case measure => simp [intOf]; omega
              · obtain rfl : q = hi' := by omega
                go_wp2
                go_roundw
                case rel => exact ⟨m + 1, q, by omega, by go_num, rfl, by show _ = _; rw [posG_ne (by have := HNB.out; omega), EHI.out], HOq, HL.out.trans HLq.out⟩
                case measure => simp [intOf]; omega
      · by_cases hmk3 : m < P.starts.length + 1
        · have hme : m = P.starts.length := by omega
          have hmk4 : ¬ (m : Int) < (P.starts.length : Int) := by omega
          have c2' : ((m : Int) == (h : Int)) = false := beq_eq_false_iff_ne.2 (by have := HK1.out; omega)
          have c4' : ((m : Int) == (h : Int) + 1) = true := beq_iff_eq.2 (by have := HK1.out; omega)
          have hmk2 : (m : Int) < (P.starts.length : Int) + 1 := by omega
          have hp : p = b := by rw [HPp.out, posG_eq (by have := HK1.out; omega), show m = h + 1 by have := HK1.out; omega, GF.out.hb]; rfl
          have hbt : b + 1 = P.ord.length := by have := GF.out.hb; rw [HK1.out, HV.out.top] at this; omega
          have FY : Hid (F[p]? = some x) := by show _ = _; rw [← EF.out, hp, GF.out.get, if_pos rfl]
          have HPL : Hid (p + 1 = P.ord.length) := by show _ = _; omega
          have hpo : p + 1 ≤ P.ord.length := by omega
          have hBwr : BW ≤ wr.heap.size := by have := HL.out.size; have := BB2.out; omega
          have HME := hd hme
          clear hme hp hbt
          go_wp2_with (at_builtin; refine wpList_append_fits _ rfl _ _ 24 rfl BW 3 i0 1 Try.underlying24 hi hz1 BW p P.ord.length (ints (F.take p)) rfl (HO.out.row.alloc _) ⟨wr.heap.size, 0, none⟩ 1 1 [.int .i64 x] rfl rfl (cell_one_new _ _ _) (one_single _) (by omega) ?_; intro w30 ho hg; have OA2 := hd (app_own ho FY.out (by omega)); have AB := hd (app_below hg hBwr (Nat.le_refl _)); clear ho hg)
          refine wp_loop_rounds 1 ?_
          rw [rounds_succ]
          go_wp2
          go_roundw
          case rel => exact ⟨m + 1, p + 1, by omega, by go_num, rfl, by show _ = _; rw [posG_ne (by have := HK1.out; omega), HME.out, GF.out.top, HPL.out], OA2, HL.out.trans AB.out⟩
          case measure => simp [intOf]; omega
        · have hpe : p = P.ord.length := by rw [HPp.out, posG_ne (by have := HK1.out; omega), show m = P.starts.length + 1 by omega, GF.out.top]
          have OWX : Hid (Own wr BW 3 (some ⟨BW, 0, none⟩) p P.ord.length (ints F)) := by
            have := HO.out
            rw [List.take_of_length_le (by rw [LF.out]; omega)] at this
            exact this
          have HPE := hd hpe
          have hpl : p ≤ 1048576 := by omega
          have hmk2 : ¬ (m : Int) < (P.starts.length : Int) + 1 := by omega
          have HM4 := hd (HM3.out.below (by rw [EBW.out]; exact BB.out.trans HL.out))
          clear HO HPp hpe HM3 BB HL BB2 EBW hi hz0 hz1 hz2
          go_wp2_with fail
          refine Calls.mono (cloneInts_any (some ⟨bH, oH, none⟩) P.held.length cH2 P.held wr (LH.out.rd.below HLW.out)) ?_
          rintro e u1 ⟨aWH, cWH, rfl, hO2, hb2⟩
          obtain ⟨gH, egH, hgH, _, fH, ⟨vh, hvh, cHx⟩, setH⟩ := hO2.at (i := x.toNat) (by omega)
          cases egH
          have OH1 := hd (setH (.int .i64 ((h : Int) + 1)))
          rw [set_ints] at OH1
          have U1 := hd (hb2.setCell (p := ⟨gH, x.toNat, none⟩) hgH (.int .i64 ((h : Int) + 1)))
          clear hvh setH hO2 hb2
          go_wp2_with fail
          generalize u1.setCell ⟨gH, x.toNat, none⟩ (.int .i64 ((h : Int) + 1)) = u2 at OH1 U1 ⊢
          clear cHx fH
          rw [show ((P.starts.length : Int) + 1) = ((P.starts.length + 1 : Nat) : Int) from by omega]; have HKN : Hid (kNew P h ≤ 16777216) := by show _ ≤ _; rw [EKN.out]; omega
          have K23 := hd (startsOf_any (some ⟨gH, 0, none⟩) aO2 P.held.length cWH P.ord.length cO2 (kNew P h) (P.held.set x.toNat ((h : Int) + 1)) P.ord (-1) u2 OH1.out.rd (LO.out.rd.below (bl HLW.out U1.out)) HKN.out GF.out.startsIn)
          rw [EKN.out] at K23
          refine Calls.mono K23.out ?_
          rintro e u3 ⟨gT, rfl, hfu, hb3, hgT⟩
          have U3 := hd hb3
          have FT : Hid (Rd u3 (some ⟨gT, 0, none⟩) (P.starts.length + 1) (ints (startsOf (P.held.set x.toNat ((h : Int) + 1)) P.ord (-1) (kNew P h)))) := by
            have := Own.rd (Own.fresh (B := 0) hfu (Nat.zero_le _) (by rw [ints_length, startsOf_length]) (by rw [← EKN.out]; exact HKN.out))
            rw [EKN.out]
            exact this
          clear hfu hb3 hgT K23
          go_wp2_with fail
          have U13 := hd (bl U1.out U3.out)
          refine Calls.mono (cloneInts_any aA2 P.at_.length cA2 P.at_ u3 (LA.out.rd.below (bl HLW.out U13.out))) ?_
          rintro e u4 ⟨aWA, cWA, rfl, hO2, hb2⟩
          have OA1 := hd hO2
          have U4 := hd hb2
          clear hO2 hb2
          have OW4 := hd (OWX.out.below U13.out)
          have HM5 := hd (HM4.out.below U13.out)
          have OH3 := hd (OH1.out.below U3.out)
          have HLW3 := hd (bl HLW.out U13.out)
          clear OWX HM4 OH1 U1 U13 HLW
          obtain ⟨BA, hBA⟩ : ∃ b, u3.heap.size = b := ⟨_, rfl⟩
          have hBWA : BW < u3.heap.size := (OW4.out.lt rfl).2
          rw [hBA] at OA1 U4 hBWA
          have EBA := hd hBA
          have hu34 : u3.heap.size ≤ u4.heap.size := U4.out.size
          clear hBA
          go_wp2_with fail
          go_loopw [265] (fun iv wq => ∃ q : Nat, q ≤ p ∧ iv = .int .i64 q ∧ Hid (Own wq BA 3 aWA P.at_.length cWA (ints (fillTo P.at_ F q))) ∧ Hid (Below BA u4 wq)) (fun iv _ => p - (intOf iv).toNat)
          case atStart => exact ⟨0, Nat.zero_le _, rfl, OA1, Below.refl _ _⟩
          case round =>
            obtain ⟨q, hq, rfl, HOq, HLq⟩ := hrel
            clear OA1
            have HUq := hd (U4.out.trans HLq.out)
            by_cases hqp : q < p
            · obtain ⟨bO, oO, y2, eO, ey, gO⟩ := (OW4.out.rd.fr (Fr.of_below HUq.out) (fun b off e => by cases e; omega)).int (i := q) (by omega)
              cases eO
              rw [Nat.zero_add] at gO
              have hy := GF.out.inF (y := y2) (by rw [EF.out]; exact List.mem_of_getElem? ey)
              have hy0 := hy.1
              have hy1 : y2 < (P.at_.length : Int) := by have := HV.out.at_; have := hy.2; omega
              obtain ⟨g', eg', hg', _, f', ⟨v', hv', c'⟩, set'⟩ := HOq.out.at (i := y2.toNat) (by omega)
              have EG' := hd eg'
              have SQ := hd (set' (.int .i64 (q : Int)))
              rw [set_ints] at SQ
              have EFQ : Hid (fillTo P.at_ F (q + 1) = (fillTo P.at_ F q).set y2.toNat (q : Int)) := by
                show _ = _
                simp only [fillTo]
                rw [getD_of ey]
              clear ey hy hv' set'
              obtain rfl := EG'.out
              clear eg' EG'
              have nBW : ¬ g' = BW := by omega
              have hqs : (q : Int) < (p : Int) := by omega
              go_wp2
              go_roundw
              case rel => exact ⟨q + 1, by omega, by go_num, by show Own _ _ _ _ _ _ _; rw [EFQ.out]; exact SQ.out, HLq.out.setCell hg' _⟩
              case measure => simp [intOf]; omega
            · obtain rfl : q = p := by omega
              have OAT : Hid (Own wr BA 3 aWA P.at_.length cWA (ints (fillTo P.at_ F F.length))) := by
                show Own _ _ _ _ _ _ _
                rw [LF.out, ← HPE.out]
                exact HOq.out
              have HUX : Hid (Below u3.heap.size u3 wr) := by show Below _ _ _; rw [EBA.out]; exact HUq.out
              have HE0 := hd (Pk.ext' (gainF_fields P x).1 (gainF_fields P x).2.1 (gainF_fields P x).2.2.1 (gainF_fields P x).2.2.2.1 (gainF_fields P x).2.2.2.2.1 GF.out.whole.1 EF.out GF.out.whole.2.1 GF.out.whole.2.2)
              rw [EF.out] at HE0
              have HLW4 := hd (bl HLW3.out HUX.out)
              have BEND := hd (CL.out.trans (HLW4.out.mono CL.out.size))
              clear HOq HLq HUq U4
              have KS := hd (same_of wr _ pb D2 (gainF P x) _ _ _ _ _ _ _ _ _ HE0.out (some ⟨bS, oS, none⟩) aC2 (some ⟨gH, 0, none⟩) (some ⟨BW, 0, none⟩) aWA (some ⟨gT, 0, none⟩) cS2 cC2 cWH P.ord.length cWA (P.starts.length + 1) P.st.length P.sec.length P.held.length q P.at_.length (P.starts.length + 1) (HM5.out.below HUX.out) (LS.out.rd.below HLW4.out) (LC.out.rd.below HLW4.out) (OH3.out.rd.below HUX.out) (OW4.out.rd.below HUX.out) OAT.out.rd (FT.out.below HUX.out))
              go_wp2_with fail
              refine Calls.mono KS.out ?_
              rintro e u8 ⟨rfl, hb8⟩
              have B8 := hd (bl BEND.out hb8)
              clear hb8
              go_wp2_with fail
              go_ret
              exact ⟨rfl, B8.out⟩
  · have hk1b : ((h : Int) + 1 == (P.starts.length : Int)) = false := beq_eq_false_iff_ne.2 (by omega)
    have HK1 := hd hk1
    have hk1a : h + 1 < P.starts.length := by omega
    have EKN : Hid (kNew P h = P.starts.length) := by show _ = _; unfold kNew; rw [if_neg HK1.out]
    go_wp2_with (first | (at_make; refine wpList_make_own _ rfl _ _ 24 rfl v0.heap.size 3 i0 (.int .i64 0) 1 Try.underlying24 hi hz0 hz1 .i64 .i64 (P.ord.length : Int) P.ord.length rfl rfl rfl (by rw [hz2]; omega) (by unfold maxLen; omega) (Nat.le_refl _) ?_; intro v1 ho hg; have OW0 := hd ((made_own ho).take0 F); have BB := hd (below_grown hg); clear ho hg))
    have HB3 := hd (HB2.out.trans (BB.out.mono HB2.out.size))
    have HBW : Hid (w7.heap.size ≤ v0.heap.size) := HB2.out.size
    have BB2 := hd BB.out.size
    have HM3 := hd HM2.out
    clear gH gy HB2 hk1
    obtain ⟨BW, hBW⟩ : ∃ b, v0.heap.size = b := ⟨_, rfl⟩
    rw [hBW] at OW0 BB HBW BB2 ⊢
    have EBW := hd hBW
    clear hBW HM2
    go_loopw [27, 28] (fun ov mv wr => ∃ m p : Nat, m ≤ P.starts.length ∧ mv = .int .i64 m ∧ ov = .slice (some ⟨BW, 0, none⟩) p P.ord.length ∧ Hid (p = posG P h m) ∧ Hid (Own wr BW 3 (some ⟨BW, 0, none⟩) p P.ord.length (ints (F.take p))) ∧ Hid (Below BW v1 wr)) (fun _ mv _ => P.starts.length - (intOf mv).toNat)
    case atStart => exact ⟨0, 0, Nat.zero_le _, rfl, rfl, by show _ = _; rw [posG_ne (by omega), HV.out.zero], OW0, Below.refl _ _⟩
    case round =>
      obtain ⟨m, p, hm, rfl, rfl, HPp, HO, HL⟩ := hrel
      clear OW0
      have HLW := hd (HB3.out.trans (HL.out.mono HBW.out))
      by_cases hmk : m < P.starts.length
      · have hmk2 : (m : Int) < ((P.starts.length : Nat) : Int) := by omega
        have hlo := lowF_le P.held P.ord (-1) m
        have hhi := lowF_le P.held P.ord (-1) (m + 1)
        have hlh := lowF_mono P.held P.ord m
        obtain ⟨bT, oT, sm, eT, est, gT⟩ := (LT.out.rd.below HLW.out).int hmk
        have ETT := hd eT
        rw [HV.out.begins hmk] at est
        cases est
        have KE : Hid (∀ u, Calls Try.prog 22 #[.slice aT2 P.starts.length cT2, .int .i64 (P.ord.length : Int), .int .i64 (m : Int)] (wr.drewN u) fun e w' => e = .returned (.int .i64 (lowF P.held P.ord (-1) (m + 1) : Int)) ∧ w' = wr.drewN u) := by
          intro u
          have := pkEnd_any (m : Int) aT2 P.ord.length P.starts.length cT2 P.starts (wr.drewN u) (by omega) (by omega) ((LT.out.rd.below HLW.out).drewN u)
          rw [HV.out.ends hmk] at this
          exact this
        have RO2 := hd (LO.out.rd.below HLW.out)
        obtain ⟨lo, hlo'⟩ : ∃ a, lowF P.held P.ord (-1) m = a := ⟨_, rfl⟩
        obtain ⟨hi', hhi'⟩ : ∃ a, lowF P.held P.ord (-1) (m + 1) = a := ⟨_, rfl⟩
        rw [hlo'] at gT hlo hlh
        rw [hhi'] at KE hhi hlh
        have ELO := hd hlo'
        have EHI := hd hhi'
        clear hlo' hhi'
        have hBwr : BW ≤ wr.heap.size := by have := HL.out.size; have := BB2.out; omega
        obtain rfl := ETT.out
        clear eT ETT
        by_cases c2 : m = h
        · obtain rfl : h = m := c2.symm
          clear c2
          have hp : p = lo := by rw [HPp.out, posG_ne (by omega), ELO.out]
          subst hp
          have hbh : hi' = b + 1 := by rw [← EHI.out]; exact GF.out.hb
          have hpb : p ≤ b := by have h1 := GF.out.place; have h2 := GF.out.qb; rw [ELO.out] at h1; omega
          have HBH := hd hbh
          have c2' : ((h : Int) == (h : Int)) = true := by simp
          obtain ⟨bO, oO, yl, eO, eyl, gO⟩ := RO2.out.int (i := hi' - 1) (by omega)
          have EOO := hd eO
          obtain rfl : yl = jl := by
            rw [HBH.out, Nat.add_sub_cancel, GF.out.hj] at eyl
            exact (Option.some.inj eyl).symm
          clear eyl
          obtain rfl := EOO.out
          clear eO EOO
          have t1 : ((hi' : Int) - 1).toNat = hi' - 1 := by omega
          have t2 : (0 : Int) ≤ (hi' : Int) - 1 := by omega
          have t3 : (hi' : Int) - 1 < (P.ord.length : Int) := by omega
          clear hbh
          have hbh1 : hi' ≤ b + 1 := by have := HBH.out; omega
          have hbh2 : b + 1 ≤ hi' := by have := HBH.out; omega
          go_wp2_with ((go_at_call 22; refine (KE.out 0).mono ?_; rintro e w' ⟨rfl, hw⟩; rw [hw]; clear hw w'; rw [World.drewN_zero]))
          go_loopw [27, 32] (fun ov qv wq => ∃ q : Nat, p ≤ q ∧ q ≤ b ∧ qv = .int .i64 q ∧ ov = .slice (some ⟨BW, 0, none⟩) q P.ord.length ∧ Hid (Own wq BW 3 (some ⟨BW, 0, none⟩) q P.ord.length (ints (F.take q))) ∧ Hid (Below BW wr wq)) (fun _ qv _ => hi' - (intOf qv).toNat)
          case atStart => exact ⟨p, Nat.le_refl _, hpb, rfl, rfl, HO, Below.refl _ _⟩
          case round =>
            obtain ⟨q, hq1, hq2, rfl, rfl, HOq, HLq⟩ := hrel
            by_cases hqh : q < b
            · obtain ⟨bO2, oO2, y2, eO, ey, gO2⟩ := (LO.out.rd.below (HLW.out.trans (HLq.out.mono HBW.out))).int (i := q) (by omega)
              cases eO
              have HFq := hd (GF.out.own hqh ey)
              rw [EF.out] at HFq
              clear ey
              have hBq : BW ≤ wr.heap.size := by have := HLq.out.size; omega
              have hqo : (q : Int) < (P.ord.length : Int) := by omega
              have hqs : (q : Int) < (hi' : Int) - 1 := by omega
              by_cases cy : y2 = x
              · have FY : Hid (F[q]? = some yl) := by show _ = _; rw [HFq.out, if_pos cy]
                have cyb : (y2 == x) = true := by simp [cy]
                clear cy HFq
                go_wp2_with (at_builtin; refine wpList_append_fits _ rfl _ _ 24 rfl BW 3 i0 1 Try.underlying24 hi hz1 BW q P.ord.length (ints (F.take q)) rfl (HOq.out.row.alloc _) ⟨wr.heap.size, 0, none⟩ 1 1 [.int .i64 yl] rfl rfl (cell_one_new _ _ _) (one_single _) (by omega) ?_; intro w30 ho hg; have OA2 := hd (app_own ho FY.out (by omega)); have AB := hd (app_below hg hBq (Nat.le_refl _)); clear ho hg)
                go_roundw
                case rel => exact ⟨q + 1, by omega, by omega, by go_num, rfl, OA2, HLq.out.trans AB.out⟩
                case measure => simp [intOf]; omega
              · have FY : Hid (F[q]? = some y2) := by show _ = _; rw [HFq.out, if_neg cy]
                have cyb : (y2 == x) = false := beq_eq_false_iff_ne.2 cy
                clear cy HFq
                go_wp2_with (at_builtin; refine wpList_append_fits _ rfl _ _ 24 rfl BW 3 i0 1 Try.underlying24 hi hz1 BW q P.ord.length (ints (F.take q)) rfl (HOq.out.row.alloc _) ⟨wr.heap.size, 0, none⟩ 1 1 [.int .i64 y2] rfl rfl (cell_one_new _ _ _) (one_single _) (by omega) ?_; intro w30 ho hg; have OA2 := hd (app_own ho FY.out (by omega)); have AB := hd (app_below hg hBq (Nat.le_refl _)); clear ho hg)
                go_roundw
                case rel => exact ⟨q + 1, by omega, by omega, by go_num, rfl, OA2, HLq.out.trans AB.out⟩
                case measure => simp [intOf]; omega
            · have hqe : q = b := by omega
              have HQE := hd hqe
              clear hqe
              have hqs : ¬ (q : Int) < (hi' : Int) - 1 := by omega
              go_wp2
              go_roundw
              case rel => exact ⟨h + 1, q, by omega, by go_num, rfl, by show _ = _; rw [posG_eq rfl, GF.out.hb, HQE.out]; rfl, HOq, HL.out.trans HLq.out⟩
              case measure => simp [intOf]; omega
        · have c2' : ((m : Int) == (h : Int)) = false := beq_eq_false_iff_ne.2 (by omega)
          by_cases c4 : m = h + 1
          · have c4' : ((m : Int) == (h : Int) + 1) = true := beq_iff_eq.2 (by omega)
            have hlb : lo = b + 1 := by rw [← ELO.out, c4]; exact GF.out.hb
            have hp : p = b := by rw [HPp.out, posG_eq c4, ELO.out, hlb]; rfl
            have hmh : h < m := by omega
            have FY : Hid (F[p]? = some x) := by show _ = _; rw [← EF.out, hp, GF.out.get, if_pos rfl]
            have HPL : Hid (p + 1 = lo) := by show _ = _; omega
            have hpo : p + 1 ≤ P.ord.length := by omega
            have HC4 := hd c4
            clear c2 c4 hlb hp
            go_wp2_with (first | (go_at_call 22; refine (KE.out 0).mono ?_; rintro e w' ⟨rfl, hw⟩; rw [hw]; clear hw w'; rw [World.drewN_zero]) | (at_builtin; refine wpList_append_fits _ rfl _ _ 24 rfl BW 3 i0 1 Try.underlying24 hi hz1 BW p P.ord.length (ints (F.take p)) rfl (HO.out.row.alloc _) ⟨wr.heap.size, 0, none⟩ 1 1 [.int .i64 x] rfl rfl (cell_one_new _ _ _) (one_single _) (by omega) ?_; intro w30 ho hg; have OA2 := hd (app_own ho FY.out (by omega)); have AB := hd (app_below hg hBwr (Nat.le_refl _)); clear ho hg))
            go_loopw [27, 34] (fun ov qv wq => ∃ q : Nat, lo ≤ q ∧ q ≤ hi' ∧ qv = .int .i64 q ∧ ov = .slice (some ⟨BW, 0, none⟩) q P.ord.length ∧ Hid (Own wq BW 3 (some ⟨BW, 0, none⟩) q P.ord.length (ints (F.take q))) ∧ Hid (Below BW wr wq)) (fun _ qv _ => hi' - (intOf qv).toNat)
            case atStart => exact ⟨lo, Nat.le_refl _, hlh, rfl, by rw [HPL.out], by rw [← HPL.out]; exact OA2, AB⟩
            case round =>
              obtain ⟨q, hq1, hq2, rfl, rfl, HOq, HLq⟩ := hrel
              clear OA2 AB
              by_cases hqh : q < hi'
              · obtain ⟨bO2, oO2, y2, eO, ey, gO2⟩ := (LO.out.rd.below (HLW.out.trans (HLq.out.mono HBW.out))).int (i := q) (by omega)
                have EOO := hd eO
                have FY : Hid (F[q]? = some y2) := by
                  show _ = _
                  rw [← EF.out, GF.out.above hmh (by rw [ELO.out]; exact hq1)]
                  exact ey
                clear ey
                obtain rfl := EOO.out
                clear eO EOO
                have hBq : BW ≤ wr.heap.size := by have := HLq.out.size; omega
                have hqo : (q : Int) < (P.ord.length : Int) := by omega
                have hqs : (q : Int) < (hi' : Int) := by omega
                go_wp2_with (at_builtin; refine wpList_append_fits _ rfl _ _ 24 rfl BW 3 i0 1 Try.underlying24 hi hz1 BW q P.ord.length (ints (F.take q)) rfl (HOq.out.row.alloc _) ⟨wr.heap.size, 0, none⟩ 1 1 [.int .i64 y2] rfl rfl (cell_one_new _ _ _) (one_single _) (by omega) ?_; intro w30 ho hg; have OA2 := hd (app_own ho FY.out (by omega)); have AB := hd (app_below hg hBq (Nat.le_refl _)); clear ho hg)
                go_roundw
                case rel => exact ⟨q + 1, by omega, by omega, by go_num, rfl, OA2, HLq.out.trans AB.out⟩
                case measure => simp [intOf]; omega
              · obtain rfl : q = hi' := by omega
                go_wp2
                go_roundw
                case rel => exact ⟨m + 1, q, by omega, by go_num, rfl, by show _ = _; rw [posG_ne (by have := HC4.out; omega), EHI.out], HOq, HL.out.trans HLq.out⟩
                case measure => simp [intOf]; omega
          · have c4' : ((m : Int) == (h : Int) + 1) = false := beq_eq_false_iff_ne.2 (by omega)
            have hp : p = lo := by rw [HPp.out, posG_ne c4, ELO.out]
            have HNB : Hid (m < h ∨ h < m) := by show _ ∨ _; omega
            have HC4 := hd c4
            have HPL := hd hp
            clear c2 c4 hp
            go_wp2_with ((go_at_call 22; refine (KE.out 0).mono ?_; rintro e w' ⟨rfl, hw⟩; rw [hw]; clear hw w'; rw [World.drewN_zero]))
            go_loopw [27, 34] (fun ov qv wq => ∃ q : Nat, lo ≤ q ∧ q ≤ hi' ∧ qv = .int .i64 q ∧ ov = .slice (some ⟨BW, 0, none⟩) q P.ord.length ∧ Hid (Own wq BW 3 (some ⟨BW, 0, none⟩) q P.ord.length (ints (F.take q))) ∧ Hid (Below BW wr wq)) (fun _ qv _ => hi' - (intOf qv).toNat)
            case atStart => exact ⟨lo, Nat.le_refl _, hlh, rfl, by rw [HPL.out], by rw [← HPL.out]; exact HO, Below.refl _ _⟩
            case round =>
              obtain ⟨q, hq1, hq2, rfl, rfl, HOq, HLq⟩ := hrel
              by_cases hqh : q < hi'
              · obtain ⟨bO2, oO2, y2, eO, ey, gO2⟩ := (LO.out.rd.below (HLW.out.trans (HLq.out.mono HBW.out))).int (i := q) (by omega)
                have EOO := hd eO
                have FY : Hid (F[q]? = some y2) := by
                  show _ = _
                  rw [← EF.out, show (gainF P x).ord[q]? = P.ord[q]? from HNB.out.elim (fun a => GF.out.below a (by rw [EHI.out]; exact hqh)) (fun a => GF.out.above a (by rw [ELO.out]; exact hq1))]
                  exact ey
                clear ey
                obtain rfl := EOO.out
                clear eO EOO
                have hBq : BW ≤ wr.heap.size := by have := HLq.out.size; omega
                have hqo : (q : Int) < (P.ord.length : Int) := by omega
                have hqs : (q : Int) < (hi' : Int) := by omega
                go_wp2_with (at_builtin; refine wpList_append_fits _ rfl _ _ 24 rfl BW 3 i0 1 Try.underlying24 hi hz1 BW q P.ord.length (ints (F.take q)) rfl (HOq.out.row.alloc _) ⟨wr.heap.size, 0, none⟩ 1 1 [.int .i64 y2] rfl rfl (cell_one_new _ _ _) (one_single _) (by omega) ?_; intro w30 ho hg; have OA2 := hd (app_own ho FY.out (by omega)); have AB := hd (app_below hg hBq (Nat.le_refl _)); clear ho hg)
                go_roundw
                case rel => exact ⟨q + 1, by omega, by omega, by go_num, rfl, OA2, HLq.out.trans AB.out⟩
                case measure => simp [intOf]; omega
              · obtain rfl : q = hi' := by omega
                go_wp2
                go_roundw
                case rel => exact ⟨m + 1, q, by omega, by go_num, rfl, by show _ = _; rw [posG_ne (by have := HNB.out; omega), EHI.out], HOq, HL.out.trans HLq.out⟩
                case measure => simp [intOf]; omega
      · have hpe : p = P.ord.length := by rw [HPp.out, posG_ne (by omega), show m = P.starts.length by omega, HV.out.top]
        have OWX : Hid (Own wr BW 3 (some ⟨BW, 0, none⟩) p P.ord.length (ints F)) := by
          have := HO.out
          rw [List.take_of_length_le (by rw [LF.out]; omega)] at this
          exact this
        have HPE := hd hpe
        have hpl : p ≤ 1048576 := by omega
        have hmk2 : ¬ (m : Int) < ((P.starts.length : Nat) : Int) := by omega
        have HM4 := hd (HM3.out.below (by rw [EBW.out]; exact BB.out.trans HL.out))
        clear HO HPp hpe HM3 BB HL BB2 EBW hi hz0 hz1 hz2
        go_wp2_with fail
        refine Calls.mono (cloneInts_any (some ⟨bH, oH, none⟩) P.held.length cH2 P.held wr (LH.out.rd.below HLW.out)) ?_
        rintro e u1 ⟨aWH, cWH, rfl, hO2, hb2⟩
        obtain ⟨gH, egH, hgH, _, fH, ⟨vh, hvh, cHx⟩, setH⟩ := hO2.at (i := x.toNat) (by omega)
        cases egH
        have OH1 := hd (setH (.int .i64 ((h : Int) + 1)))
        rw [set_ints] at OH1
        have U1 := hd (hb2.setCell (p := ⟨gH, x.toNat, none⟩) hgH (.int .i64 ((h : Int) + 1)))
        clear hvh setH hO2 hb2
        go_wp2_with fail
        generalize u1.setCell ⟨gH, x.toNat, none⟩ (.int .i64 ((h : Int) + 1)) = u2 at OH1 U1 ⊢
        clear cHx fH
        have HKN : Hid (kNew P h ≤ 16777216) := by show _ ≤ _; rw [EKN.out]; omega
        have K23 := hd (startsOf_any (some ⟨gH, 0, none⟩) aO2 P.held.length cWH P.ord.length cO2 (kNew P h) (P.held.set x.toNat ((h : Int) + 1)) P.ord (-1) u2 OH1.out.rd (LO.out.rd.below (bl HLW.out U1.out)) HKN.out GF.out.startsIn)
        rw [EKN.out] at K23
        refine Calls.mono K23.out ?_
        rintro e u3 ⟨gT, rfl, hfu, hb3, hgT⟩
        have U3 := hd hb3
        have FT : Hid (Rd u3 (some ⟨gT, 0, none⟩) P.starts.length (ints (startsOf (P.held.set x.toNat ((h : Int) + 1)) P.ord (-1) (kNew P h)))) := by
          have := Own.rd (Own.fresh (B := 0) hfu (Nat.zero_le _) (by rw [ints_length, startsOf_length]) (by rw [← EKN.out]; exact HKN.out))
          rw [EKN.out]
          exact this
        clear hfu hb3 hgT K23
        go_wp2_with fail
        have U13 := hd (bl U1.out U3.out)
        refine Calls.mono (cloneInts_any aA2 P.at_.length cA2 P.at_ u3 (LA.out.rd.below (bl HLW.out U13.out))) ?_
        rintro e u4 ⟨aWA, cWA, rfl, hO2, hb2⟩
        have OA1 := hd hO2
        have U4 := hd hb2
        clear hO2 hb2
        have OW4 := hd (OWX.out.below U13.out)
        have HM5 := hd (HM4.out.below U13.out)
        have OH3 := hd (OH1.out.below U3.out)
        have HLW3 := hd (bl HLW.out U13.out)
        clear OWX HM4 OH1 U1 U13 HLW
        obtain ⟨BA, hBA⟩ : ∃ b, u3.heap.size = b := ⟨_, rfl⟩
        have hBWA : BW < u3.heap.size := (OW4.out.lt rfl).2
        rw [hBA] at OA1 U4 hBWA
        have EBA := hd hBA
        have hu34 : u3.heap.size ≤ u4.heap.size := U4.out.size
        clear hBA
        go_wp2_with fail
        go_loopw [265] (fun iv wq => ∃ q : Nat, q ≤ p ∧ iv = .int .i64 q ∧ Hid (Own wq BA 3 aWA P.at_.length cWA (ints (fillTo P.at_ F q))) ∧ Hid (Below BA u4 wq)) (fun iv _ => p - (intOf iv).toNat)
        case atStart => exact ⟨0, Nat.zero_le _, rfl, OA1, Below.refl _ _⟩
        case round =>
          obtain ⟨q, hq, rfl, HOq, HLq⟩ := hrel
          clear OA1
          have HUq := hd (U4.out.trans HLq.out)
          by_cases hqp : q < p
          · obtain ⟨bO, oO, y2, eO, ey, gO⟩ := (OW4.out.rd.fr (Fr.of_below HUq.out) (fun b off e => by cases e; omega)).int (i := q) (by omega)
            cases eO
            rw [Nat.zero_add] at gO
            have hy := GF.out.inF (y := y2) (by rw [EF.out]; exact List.mem_of_getElem? ey)
            have hy0 := hy.1
            have hy1 : y2 < (P.at_.length : Int) := by have := HV.out.at_; have := hy.2; omega
            obtain ⟨g', eg', hg', _, f', ⟨v', hv', c'⟩, set'⟩ := HOq.out.at (i := y2.toNat) (by omega)
            have EG' := hd eg'
            have SQ := hd (set' (.int .i64 (q : Int)))
            rw [set_ints] at SQ
            have EFQ : Hid (fillTo P.at_ F (q + 1) = (fillTo P.at_ F q).set y2.toNat (q : Int)) := by
              show _ = _
              simp only [fillTo]
              rw [getD_of ey]
            clear ey hy hv' set'
            obtain rfl := EG'.out
            clear eg' EG'
            have nBW : ¬ g' = BW := by omega
            have hqs : (q : Int) < (p : Int) := by omega
            go_wp2
            go_roundw
            case rel => exact ⟨q + 1, by omega, by go_num, by show Own _ _ _ _ _ _ _; rw [EFQ.out]; exact SQ.out, HLq.out.setCell hg' _⟩
            case measure => simp [intOf]; omega
          · obtain rfl : q = p := by omega
            have OAT : Hid (Own wr BA 3 aWA P.at_.length cWA (ints (fillTo P.at_ F F.length))) := by
              show Own _ _ _ _ _ _ _
              rw [LF.out, ← HPE.out]
              exact HOq.out
            have HUX : Hid (Below u3.heap.size u3 wr) := by show Below _ _ _; rw [EBA.out]; exact HUq.out
            have HE0 := hd (Pk.ext' (gainF_fields P x).1 (gainF_fields P x).2.1 (gainF_fields P x).2.2.1 (gainF_fields P x).2.2.2.1 (gainF_fields P x).2.2.2.2.1 GF.out.whole.1 EF.out GF.out.whole.2.1 GF.out.whole.2.2)
            rw [EF.out] at HE0
            have HLW4 := hd (bl HLW3.out HUX.out)
            have BEND := hd (CL.out.trans (HLW4.out.mono CL.out.size))
            clear HOq HLq HUq U4
            have KS := hd (same_of wr _ pb D2 (gainF P x) _ _ _ _ _ _ _ _ _ HE0.out (some ⟨bS, oS, none⟩) aC2 (some ⟨gH, 0, none⟩) (some ⟨BW, 0, none⟩) aWA (some ⟨gT, 0, none⟩) cS2 cC2 cWH P.ord.length cWA P.starts.length P.st.length P.sec.length P.held.length q P.at_.length P.starts.length (HM5.out.below HUX.out) (LS.out.rd.below HLW4.out) (LC.out.rd.below HLW4.out) (OH3.out.rd.below HUX.out) (OW4.out.rd.below HUX.out) OAT.out.rd (FT.out.below HUX.out))
            go_wp2_with fail
            refine Calls.mono KS.out ?_
            rintro e u8 ⟨rfl, hb8⟩
            have B8 := hd (bl BEND.out hb8)
            clear hb8
            go_wp2_with fail
            go_ret
            exact ⟨rfl, B8.out⟩
end Go.Proofs.Qxb6602173a
