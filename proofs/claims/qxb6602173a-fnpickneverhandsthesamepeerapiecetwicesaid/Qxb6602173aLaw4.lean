import Derived.Test.Qxb6602173aPlain4
namespace Go.Proofs.Qxb6602173a
open Go.RowKit
set_option linter.unusedVariables false
set_option linter.unusedSimpArgs false

set_option maxHeartbeats 4000000 in
set_option maxRecDepth 100000 in
theorem law4 (P : Pk) (aS aC aH aO aA aT aB aF : Option Addr) (cS cC cH cO cA cT cB cF : Nat) (has fet : List Int) (queue : Int) (w : World)
    (hS : Rd0 w aS P.st.length (u8s P.st)) (hC : Rd0 w aC P.sec.length (bools P.sec)) (hH : Rd0 w aH P.held.length (ints P.held)) (hO : Rd0 w aO P.ord.length (ints P.ord)) (hA : Rd0 w aA P.at_.length (ints P.at_)) (hT : Rd0 w aT P.starts.length (ints P.starts))
    (hB : Rd0 w aB has.length (u8s has)) (hF : Rd0 w aF fet.length (ints fet)) :
    Calls Try.prog 4 #[.slice aS P.st.length cS, .int .i64 P.ver, .int .i64 P.act, .slice aC P.sec.length cC, .int .i64 P.que, .slice aH P.held.length cH, .slice aO P.ord.length cO, .slice aA P.at_.length cA, .slice aT P.starts.length cT, .slice aB has.length cB, .slice aF fet.length cF, .int .i64 queue] w
      fun e w' => e = .returned (.bool true) ∧ Below w.heap.size w w' := by
  have kz := zz19_any aS P.st.length cS P.ver P.act aC P.sec.length cC P.que aH P.held.length cH aO P.ord.length cO aA P.at_.length cA aT P.starts.length cT aB has.length cB aF fet.length cF queue w hS.2.1 hC.2.1 hH.2.1 hO.2.1 hA.2.1 hT.2.1 hB.2.1 hF.2.1
  have KZ := hd (kz)
  have QS := hd (hS)
  have QC := hd (hC)
  have QH := hd (hH)
  have QO := hd (hO)
  have QA := hd (hA)
  have QT := hd (hT)
  have QB := hd (hB)
  have QF := hd (hF)
  clear kz hS hC hH hO hA hT hB hF
  go_enter Try.func4, Try.ntmps4
  go_wp2_with fail
  refine Calls.mono KZ.out ?_
  rintro e w' ⟨rfl, hw⟩
  rw [hw]
  clear hw w'
  clear KZ
  by_cases hz : P.st.length + P.sec.length + P.held.length + P.ord.length + P.at_.length + P.starts.length + has.length + fet.length ≤ 1048576
  case neg =>
    rw [sumOk_f hz]
    clear hz
    go_wp2_with fail
    go_ret
    exact ⟨rfl, Below.refl _ _⟩
  rw [sumOk_t hz]
  by_cases h8 : P.st.length + P.sec.length + has.length + 8 * (P.held.length + P.ord.length + P.at_.length + P.starts.length + fet.length) ≤ 1048576
  case neg =>
    go_wp2_with fail
    go_ret
    exact ⟨rfl, Below.refl _ _⟩
  go_wp2_with fail
  refine Calls.mono (wide_any _) ?_
  rintro e w' ⟨rfl, hw⟩
  rw [hw]
  clear hw w'
  by_cases q1 : P.que < 1
  case pos =>
    go_wp2_with fail
    go_ret
    exact ⟨rfl, Below.refl _ _⟩
  by_cases q2 : 1073741824 < P.que
  case pos =>
    go_wp2_with fail
    go_ret
    exact ⟨rfl, Below.refl _ _⟩
  by_cases q3 : queue < 0
  case pos =>
    go_wp2_with fail
    go_ret
    exact ⟨rfl, Below.refl _ _⟩
  by_cases q4 : 1073741824 < queue
  case pos =>
    go_wp2_with fail
    go_ret
    exact ⟨rfl, Below.refl _ _⟩
  have rS := QS.out.rd (by omega)
  have rC := QC.out.rd (by omega)
  have rH := QH.out.rd (by omega)
  have rO := QO.out.rd (by omega)
  have rA := QA.out.rd (by omega)
  have rT := QT.out.rd (by omega)
  have rB := QB.out.rd (by omega)
  have rF := QF.out.rd (by omega)
  clear QS QC QH QO QA QT QB QF
  have RS := hd (rS)
  have RC := hd (rC)
  have RH := hd (rH)
  have RO := hd (rO)
  have RA := hd (rA)
  have RT := hd (rT)
  have RB := hd (rB)
  have RF := hd (rF)
  clear rS rC rH rO rA rT rB rF
  go_wp2_with fail
  by_cases hv : Valid P
  case neg =>
    refine Calls.mono (valid_no P aS aC aH aO aA aT cS cC cH cO cA cT _ RS.out RC.out RH.out RO.out RA.out RT.out hv) ?_
    rintro e w1 ⟨rfl, hb1⟩
    have B1 := hd (hb1)
    clear hb1 hv
    go_wp2_with fail
    go_ret
    exact ⟨rfl, B1.out⟩
  refine Calls.mono (valid_yes P aS aC aH aO aA aT cS cC cH cO cA cT _ RS.out RC.out RH.out RO.out RA.out RT.out hv) ?_
  rintro e w1 ⟨rfl, hb1⟩
  have B1 := hd (hb1)
  have HV : Hid (Valid P) := hv
  clear hb1 hv
  by_cases hb : (has.length : Int) < ((P.st.length : Int) + 7) / 8
  case pos =>
    go_wp2_with fail
    go_ret
    exact ⟨rfl, B1.out⟩
  have HP : Hid (Pickable P has.length) := HV.out.pickable (by omega) (by omega) (by omega) (by omega)
  have hnF : fet.length ≤ 1048576 := by omega
  have HN : Hid (P.st.length ≤ 1048576) := by show _ ≤ _; omega
  have hq3 : Hid (0 ≤ queue) := by show _ ≤ _; omega
  have hq4 : Hid (queue ≤ 1073741824) := by show _ ≤ _; omega
  go_wp2_with fail
  refine Calls.mono (cloneU8_any aS P.st.length cS P.st w1 (RS.out.below B1.out)) ?_
  rintro e w2 ⟨aS2, cS2, rfl, hO2, hb2⟩
  have OS := hd (hO2)
  have B2 := hd (hb2)
  clear hO2 hb2
  go_wp2_with fail
  refine Calls.mono (cloneBools_any aC P.sec.length cC P.sec w2 (RC.out.below (bl B1.out B2.out))) ?_
  rintro e w3 ⟨aC2, cC2, rfl, hO2, hb2⟩
  have OC := hd (hO2)
  have B3 := hd (hb2)
  clear hO2 hb2
  go_wp2_with fail
  refine Calls.mono (cloneInts_any aH P.held.length cH P.held w3 (RH.out.below (bl (bl B1.out B2.out) B3.out))) ?_
  rintro e w4 ⟨aH2, cH2, rfl, hO2, hb2⟩
  have OH := hd (hO2)
  have B4 := hd (hb2)
  clear hO2 hb2
  go_wp2_with fail
  refine Calls.mono (cloneInts_any aO P.ord.length cO P.ord w4 (RO.out.below (bl (bl (bl B1.out B2.out) B3.out) B4.out))) ?_
  rintro e w5 ⟨aO2, cO2, rfl, hO2, hb2⟩
  have OO := hd (hO2)
  have B5 := hd (hb2)
  clear hO2 hb2
  go_wp2_with fail
  refine Calls.mono (cloneInts_any aA P.at_.length cA P.at_ w5 (RA.out.below (bl (bl (bl (bl B1.out B2.out) B3.out) B4.out) B5.out))) ?_
  rintro e w6 ⟨aA2, cA2, rfl, hO2, hb2⟩
  have OA := hd (hO2)
  have B6 := hd (hb2)
  clear hO2 hb2
  go_wp2_with fail
  refine Calls.mono (cloneInts_any aT P.starts.length cT P.starts w6 (RT.out.below (bl (bl (bl (bl (bl B1.out B2.out) B3.out) B4.out) B5.out) B6.out))) ?_
  rintro e w7 ⟨aT2, cT2, rfl, hO2, hb2⟩
  have OT := hd (hO2)
  have B7 := hd (hb2)
  clear hO2 hb2
  go_wp2_with fail
  have B17 := hd (bl (bl (bl (bl (bl (bl B1.out B2.out) B3.out) B4.out) B5.out) B6.out) B7.out)
  refine Calls.mono (cloneU8_any aB has.length cB has w7 (RB.out.below B17.out)) ?_
  rintro e w8 ⟨aB2, cB2, rfl, hO2, hb2⟩
  have OB := hd (hO2)
  have B8 := hd (hb2)
  clear hO2 hb2
  go_wp2_with fail
  refine Calls.mono (cloneInts_any aF fet.length cF fet w8 (RF.out.below (bl B17.out B8.out))) ?_
  rintro e w9 ⟨aF2, cF2, rfl, hO2, hb2⟩
  have OF := hd (hO2)
  have B9 := hd (hb2)
  clear hO2 hb2 RS RC RH RO RA RT RB RF
  go_wp2_with fail
  have B89 := hd (bl B8.out B9.out)
  have B79 := hd (bl B7.out B89.out)
  have B69 := hd (bl B6.out B79.out)
  have B59 := hd (bl B5.out B69.out)
  have B49 := hd (bl B4.out B59.out)
  have B39 := hd (bl B3.out B49.out)
  refine Calls.mono (make_any aS2 aC2 aH2 aO2 aA2 aT2 P.st.length cS2 P.sec.length cC2 P.held.length cH2 P.ord.length cO2 P.at_.length cA2 P.starts.length cT2 P.ver P.act P.que P.st w9 (OS.out.rd.below B39.out)) ?_
  rintro e w10 ⟨pb, rfl, hbx, hst, hb10, hpb⟩
  have B10 := hd (hb10)
  have hM : Hid (PM w10 w1.heap.size pb ⟨some ⟨w9.heap.size, 0, none⟩, aC2, aH2, aO2, aA2, aT2, P.st.length, cC2, cH2, cO2, cA2, cT2⟩ P) := by
    have s12 := B2.out.size
    have s23 := B3.out.size
    have s34 := B4.out.size
    have s45 := B5.out.size
    have s56 := B6.out.size
    have s67 := B7.out.size
    have s79 := B89.out.size
    refine PM.build hbx (by omega) hst (by omega) (by have := HN.out; omega) ((OC.out.below (bl B49.out B10.out)).mono (by omega)) ((OH.out.below (bl B59.out B10.out)).mono (by omega)) ((OO.out.below (bl B69.out B10.out)).mono (by omega)) ((OA.out.below (bl B79.out B10.out)).mono (by omega)) ((OT.out.below (bl B89.out B10.out)).mono (by omega)) ?_ ?_ ?_ ?_ ?_ ?_
    · exact apt_lt OH.out OO.out (Nat.le_refl _)
    · exact apt_lt OH.out OA.out (by omega)
    · exact apt_lt OH.out OT.out (by omega)
    · exact apt_lt OO.out OA.out (Nat.le_refl _)
    · exact apt_lt OO.out OT.out (by omega)
    · exact apt_lt OA.out OT.out (Nat.le_refl _)
  have RB2 : Hid (Rd w10 aB2 has.length (u8s has)) := OB.out.rd.below (bl B9.out B10.out)
  have RF2 : Hid (Rd w10 aF2 fet.length (ints fet)) := OF.out.rd.below B10.out
  have B110 : Hid (Below w.heap.size w w10) := bl (bl (bl B17.out B8.out) B9.out) B10.out
  have hsz : w1.heap.size ≤ w10.heap.size := (bl (bl B2.out B39.out) B10.out).size
  have hw1 : Hid (w.heap.size ≤ w1.heap.size) := B1.out.size
  have hpB : Hid (∀ k, k < w10.heap.size → pickFr pb ⟨some ⟨w9.heap.size, 0, none⟩, aC2, aH2, aO2, aA2, aT2, P.st.length, cC2, cH2, cO2, cA2, cT2⟩ k → w1.heap.size ≤ k) := by
    rintro k _ (rfl | e | e)
    · exact hM.out.hB
    · exact (hM.out.s.lt e).1
    · exact (hM.out.c.lt e).1
  have FRB : Hid (∀ b off, aB2 = some ⟨b, off, none⟩ → ¬ pickFr pb ⟨some ⟨w9.heap.size, 0, none⟩, aC2, aH2, aO2, aA2, aT2, P.st.length, cC2, cH2, cO2, cA2, cT2⟩ b) := by
    intro b off e h
    have h1 := OB.out.lt e
    have s37 := (bl (bl (bl B4.out B5.out) B6.out) B7.out).size
    have s78 := B8.out.size
    have s89 := B9.out.size
    rcases h with h | h | h
    · omega
    · simp at h <;> omega
    · have := OC.out.lt h; omega
  have FRF : Hid (∀ b off, aF2 = some ⟨b, off, none⟩ → ¬ pickFr pb ⟨some ⟨w9.heap.size, 0, none⟩, aC2, aH2, aO2, aA2, aT2, P.st.length, cC2, cH2, cO2, cA2, cT2⟩ b) := by
    intro b off e h
    have h1 := OF.out.lt e
    have s37 := (bl (bl (bl B4.out B5.out) B6.out) B7.out).size
    have s78 := B8.out.size
    have s89 := B9.out.size
    rcases h with h | h | h
    · omega
    · simp at h <;> omega
    · have := OC.out.lt h; omega
  generalize (⟨some ⟨w9.heap.size, 0, none⟩, aC2, aH2, aO2, aA2, aT2, P.st.length, cC2, cH2, cO2, cA2, cT2⟩ : Ad) = D at hM hpB FRB FRF
  clear hbx hst hb10 hpb B1 B2 B3 B4 B5 B6 B7 B8 B9 B10 B17 B89 B79 B69 B59 B49 B39 OS OC OH OO OA OT OB OF
  go_wp2_with fail
  refine Calls.mono (pick_pm w10 w1.heap.size pb D P aB2 aF2 has.length cB2 fet.length cF2 has fet queue hM.out HP.out RB2.out RF2.out hq3.out hq4.out) ?_
  rintro e w11 ⟨rfl, hM2, hf11⟩
  have B11 := hd (hf11.below (B := w1.heap.size) fun k hk => ⟨by omega, fun h => by have := hpB.out k (by omega) h; omega⟩)
  have RB3 := hd (RB2.out.fr hf11 (FRB.out))
  have RF3 := hd (RF2.out.fr hf11 (FRF.out))
  have HS1 := hd (hf11.size)
  clear RB2 RF2 hf11 hM
  cases hp : pickF P has fet queue with
  | none =>
    rw [found_none]
    clear hM2 hp
    go_wp2_with fail
    go_ret
    exact ⟨rfl, B110.out.trans (B11.out.mono hw1.out)⟩
  | some x =>
    rw [found_some]
    rw [hp] at hM2
    have HM2 := hd hM2
    have HPk := hd hp
    clear hM2 hp
    obtain ⟨i0, hi, hz0, hz1, hz2⟩ := info_parts Try.info3
    have HLF := hd (ints_length fet)
    go_wp2_with (first | (at_make; refine wpList_make_full _ rfl _ _ 24 rfl w11.heap.size 3 i0 (.int .i64 0) 1 Try.underlying24 hi hz0 hz1 .i64 .i64 ((fet.length : Int) + 1) ((fet.length : Int) + 1) (fet.length + 1) rfl rfl (by omega) (by omega) (by rw [hz2]; omega) (by unfold maxLen; omega) (Nat.le_refl _) ?_; intro w12 ho hg; have hbk := made_block (by rfl) ho; have hbel := below_grown hg; clear ho hg) | (refine wpList_copy_splice rfl _ _ 24 24 rfl 3 Try.underlying24 Try.size3 _ _ (fet.length + 1) (fet.length + 1) fet.length cF2 rfl rfl w11.heap.size 0 (List.replicate (fet.length + 1) (.int .i64 0)) 3 hbk (ints fet) (by rw [HLF.out]; simp) (src_cells2 RF3.out hbel _) (by rw [HLF.out]; simp) (one_ints fet) w11.heap.size w11 hbel (Nat.le_refl _) ?_; intro w13 hbk2 hbel2; clear hbk hbel; obtain ⟨hcx, hfx⟩ := more_cell hbk2.out))
    have hact : P.act ≤ 1048576 := by
      have h1 : P.st.countP (· == 1) ≤ P.st.length := List.countP_le_length
      have h2 := HV.out.na
      have h3 := HN.out
      omega
    have HP2 := hd (takeF_pickable HP.out hact x)
    clear hact
    have hne : ¬ w11.heap.size < w1.heap.size := by have := HS1.out; omega
    have B13 := hd (hbel2.setCell (p := ⟨w11.heap.size, fet.length, none⟩) (Nat.le_refl _) (.int .i64 x))
    have HM3 := hd (HM2.out.below B13.out)
    have RB4 := hd (RB3.out.below B13.out)
    have RM := hd (Own.rd (Own.fresh (B := 0) (more_full x hbk2.out) (Nat.zero_le _) (by rw [ints_length, List.length_append]; rfl) (by omega : fet.length + 1 ≤ 16777216)))
    refine Calls.mono (pick_pm _ w1.heap.size pb D (takeF P x) aB2 (some ⟨w11.heap.size, 0, none⟩) has.length cB2 (fet.length + 1) (fet.length + 1) has (fet ++ [x]) queue HM3.out HP2.out RB4.out RM.out hq3.out hq4.out) ?_
    rintro e w14 ⟨rfl, hM4, hf14⟩
    have BE : Hid (Below w.heap.size w w14) := by
      refine (((B110.out.trans (B11.out.mono hw1.out)).trans (B13.out.mono ?_)).trans ((hf14.below (B := w1.heap.size) fun k hk => ⟨?_, fun h => ?_⟩).mono hw1.out))
      · have := HS1.out; have := hw1.out; omega
      · have := HS1.out; have := B13.out.size; omega
      · have := hpB.out k (by omega) h; omega
    have HT := hd (never_twice (fet2 := fet ++ [x]) HP.out HPk.out (by simp))
    clear hM4 hf14 HM3 RB4 RM B13 hbel2 hbk2 hcx hfx HP2
    cases hp : pickF (takeF P x) has (fet ++ [x]) queue with
    | none =>
      rw [found_none]
      clear hp
      go_wp2_with fail
      go_ret
      exact ⟨rfl, BE.out⟩
    | some y =>
      rw [found_some]
      have hxy : ¬ y = x := fun e => HT.out (by rw [hp, e])
      have hb : (y != x) = true := bne_iff_ne.2 hxy
      clear hp hxy HT
      go_wp2_with fail
      go_ret
      exact ⟨rfl, BE.out⟩
end Go.Proofs.Qxb6602173a
