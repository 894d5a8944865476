import Derived.Test.Qxb6602173aPlain6
import Derived.Test.Qxb6602173aGet
namespace Go.Proofs.Qxb6602173a
open Go.RowKit
set_option linter.unusedVariables false
set_option linter.unusedSimpArgs false

theorem st_val {st : List Int} {i : Nat} {v : Value} (h : st[i]? = some 2) (hv : (u8s st)[i]? = some v) : v = .int .u8 2 := by
  rw [u8s, List.getElem?_map, h] at hv
  exact (Option.some.inj hv).symm

set_option maxHeartbeats 8000000 in
set_option maxRecDepth 100000 in
theorem law6 (P : Pk) (aS aC aH aO aA aT aB : Option Addr) (cS cC cH cO cA cT cB : Nat) (x : Int) (has : List Int) (queue : Int) (w : World)
    (hS : Rd0 w aS P.st.length (u8s P.st)) (hC : Rd0 w aC P.sec.length (bools P.sec)) (hH : Rd0 w aH P.held.length (ints P.held)) (hO : Rd0 w aO P.ord.length (ints P.ord)) (hA : Rd0 w aA P.at_.length (ints P.at_)) (hT : Rd0 w aT P.starts.length (ints P.starts)) (hB : Rd0 w aB has.length (u8s has)) :
    Calls Try.prog 6 #[.slice aS P.st.length cS, .int .i64 P.ver, .int .i64 P.act, .slice aC P.sec.length cC, .int .i64 P.que, .slice aH P.held.length cH, .slice aO P.ord.length cO, .slice aA P.at_.length cA, .slice aT P.starts.length cT, .int .i64 x, .slice aB has.length cB, .int .i64 queue] w
      fun e w' => e = .returned (.bool true) ∧ Below w.heap.size w w' := by
  have KZ := hd (zz24_any aS P.st.length cS P.ver P.act aC P.sec.length cC P.que aH P.held.length cH aO P.ord.length cO aA P.at_.length cA aT P.starts.length cT x aB has.length cB queue w hS.2.1 hC.2.1 hH.2.1 hO.2.1 hA.2.1 hT.2.1 hB.2.1)
  have QS := hd hS
  have QC := hd hC
  have QH := hd hH
  have QO := hd hO
  have QA := hd hA
  have QT := hd hT
  have QB := hd hB
  clear hS hC hH hO hA hT hB
  go_enter Try.func6, Try.ntmps6
  go_wp2_with fail
  refine Calls.mono KZ.out ?_
  rintro e w' ⟨rfl, hw⟩
  rw [hw]
  clear hw w' KZ
  by_cases hz : P.st.length + P.sec.length + P.held.length + P.ord.length + P.at_.length + P.starts.length + has.length ≤ 1048576
  case neg =>
    rw [sumOk_f hz]
    clear hz
    go_wp2_with fail
    go_ret
    exact ⟨rfl, Below.refl _ _⟩
  rw [sumOk_t hz]
  by_cases h8 : P.st.length + P.sec.length + has.length + 8 * (P.held.length + P.ord.length + P.at_.length + P.starts.length) ≤ 1048576
  case neg =>
    go_wp2_with fail
    go_ret
    exact ⟨rfl, Below.refl _ _⟩
  go_wp2_with fail
  refine Calls.mono (wide_any _) ?_
  rintro e w' ⟨rfl, hw⟩
  rw [hw]
  clear hw w'
  by_cases q1 : P.que < 1
  case pos =>
    go_wp2_with fail
    go_ret
    exact ⟨rfl, Below.refl _ _⟩
  by_cases q2 : 1073741824 < P.que
  case pos =>
    go_wp2_with fail
    go_ret
    exact ⟨rfl, Below.refl _ _⟩
  by_cases q3 : queue < 0
  case pos =>
    go_wp2_with fail
    go_ret
    exact ⟨rfl, Below.refl _ _⟩
  by_cases q4 : 1073741824 < queue
  case pos =>
    go_wp2_with fail
    go_ret
    exact ⟨rfl, Below.refl _ _⟩
  have RS := hd (QS.out.rd (by omega))
  have RC := hd (QC.out.rd (by omega))
  have RH := hd (QH.out.rd (by omega))
  have RO := hd (QO.out.rd (by omega))
  have RA := hd (QA.out.rd (by omega))
  have RT := hd (QT.out.rd (by omega))
  have RB := hd (QB.out.rd (by omega))
  clear QS QC QH QO QA QT QB
  go_wp2_with fail
  by_cases hv : Valid P
  case neg =>
    refine Calls.mono (valid_no P aS aC aH aO aA aT cS cC cH cO cA cT _ RS.out RC.out RH.out RO.out RA.out RT.out hv) ?_
    rintro e w1 ⟨rfl, hb1⟩
    have B1 := hd hb1
    clear hb1 hv
    go_wp2_with fail
    go_ret
    exact ⟨rfl, B1.out⟩
  refine Calls.mono (valid_yes P aS aC aH aO aA aT cS cC cH cO cA cT _ RS.out RC.out RH.out RO.out RA.out RT.out hv) ?_
  rintro e w1 ⟨rfl, hb1⟩
  have B1 := hd hb1
  have HV := hd hv
  clear hb1 hv
  by_cases i1 : x < 0
  case pos =>
    go_wp2_with fail
    go_ret
    exact ⟨rfl, B1.out⟩
  by_cases i2 : (P.st.length : Int) ≤ x
  case pos =>
    go_wp2_with fail
    go_ret
    exact ⟨rfl, B1.out⟩
  have x0 : 0 ≤ x := by omega
  have x1 : x < (P.st.length : Int) := by omega
  clear i1 i2
  obtain ⟨bS, oS, y, eaS, ey, gy⟩ := (RS.out.below B1.out).u8 (i := x.toNat) (by omega)
  have EY := hd ey
  have EA := hd eaS
  clear ey
  by_cases i3 : y = 2
  case pos =>
    subst i3
    obtain rfl := EA.out
    clear eaS EA
    go_wp2_with fail
    go_ret
    exact ⟨rfl, B1.out⟩
  have HST : Hid (P.st[x.toNat]? ≠ some 2) := fun e => i3 (by rw [EY.out] at e; exact Option.some.inj e)
  have i3b : (y == 2) = false := beq_eq_false_iff_ne.2 i3
  clear i3
  by_cases hb : (has.length : Int) < ((P.st.length : Int) + 7) / 8
  case pos =>
    obtain rfl := EA.out
    clear eaS EA
    go_wp2_with fail
    go_ret
    exact ⟨rfl, B1.out⟩
  have HVO := hd (HV.out.verOk (by omega) x0 x1 HST.out)
  have HPk := hd (ver_pickable (nb := has.length) HV.out (by omega) x0 x1 HST.out (by omega) (by omega) (by omega))
  have HN : Hid (P.st.length ≤ 1048576) := by show _ ≤ _; omega
  have hq3 : Hid (0 ≤ queue) := by show _ ≤ _; omega
  have hq4 : Hid (queue ≤ 1073741824) := by show _ ≤ _; omega
  obtain rfl := EA.out
  clear eaS EA
  have C1 := hd B1.out
  go_wp2_with fail
  refine Calls.mono (cloneU8_any (some ⟨bS, oS, none⟩) P.st.length cS P.st w1 (RS.out.below C1.out)) ?_
  rintro e w2 ⟨aS2, cS2, rfl, hO2, hb2⟩
  have OS := hd hO2
  have B2 := hd hb2
  clear hO2 hb2
  have C2 := hd (bl C1.out B2.out)
  go_wp2_with fail
  refine Calls.mono (cloneBools_any aC P.sec.length cC P.sec w2 (RC.out.below C2.out)) ?_
  rintro e w3 ⟨aC2, cC2, rfl, hO2, hb2⟩
  have OC := hd hO2
  have B3 := hd hb2
  clear hO2 hb2
  have C3 := hd (bl C2.out B3.out)
  go_wp2_with fail
  refine Calls.mono (cloneInts_any aH P.held.length cH P.held w3 (RH.out.below C3.out)) ?_
  rintro e w4 ⟨aH2, cH2, rfl, hO2, hb2⟩
  have OH := hd hO2
  have B4 := hd hb2
  clear hO2 hb2
  have C4 := hd (bl C3.out B4.out)
  go_wp2_with fail
  refine Calls.mono (cloneInts_any aO P.ord.length cO P.ord w4 (RO.out.below C4.out)) ?_
  rintro e w5 ⟨aO2, cO2, rfl, hO2, hb2⟩
  have OO := hd hO2
  have B5 := hd hb2
  clear hO2 hb2
  have C5 := hd (bl C4.out B5.out)
  go_wp2_with fail
  refine Calls.mono (cloneInts_any aA P.at_.length cA P.at_ w5 (RA.out.below C5.out)) ?_
  rintro e w6 ⟨aA2, cA2, rfl, hO2, hb2⟩
  have OA := hd hO2
  have B6 := hd hb2
  clear hO2 hb2
  have C6 := hd (bl C5.out B6.out)
  go_wp2_with fail
  refine Calls.mono (cloneInts_any aT P.starts.length cT P.starts w6 (RT.out.below C6.out)) ?_
  rintro e w7 ⟨aT2, cT2, rfl, hO2, hb2⟩
  have OT := hd hO2
  have B7 := hd hb2
  clear hO2 hb2
  have C7 := hd (bl C6.out B7.out)
  go_wp2_with fail
  refine Calls.mono (cloneU8_any aB has.length cB has w7 (RB.out.below C7.out)) ?_
  rintro e w8 ⟨aB2, cB2, rfl, hO2, hb2⟩
  have OB := hd hO2
  have B8 := hd hb2
  clear hO2 hb2
  have C8 := hd (bl C7.out B8.out)
  clear RS RC RH RO RA RT RB gy
  go_wp2_with fail
  have B78 := hd (bl B7.out B8.out)
  have B68 := hd (bl B6.out B78.out)
  have B58 := hd (bl B5.out B68.out)
  have B48 := hd (bl B4.out B58.out)
  have B38 := hd (bl B3.out B48.out)
  refine Calls.mono (make_any aS2 aC2 aH2 aO2 aA2 aT2 P.st.length cS2 P.sec.length cC2 P.held.length cH2 P.ord.length cO2 P.at_.length cA2 P.starts.length cT2 P.ver P.act P.que P.st w8 (OS.out.rd.below B38.out)) ?_
  rintro e w9 ⟨pb, rfl, hbx, hst, hb9, hpb⟩
  have B9 := hd hb9
  have hM : Hid (PM w9 w1.heap.size pb ⟨some ⟨w8.heap.size, 0, none⟩, aC2, aH2, aO2, aA2, aT2, P.st.length, cC2, cH2, cO2, cA2, cT2⟩ P) := by
    have s12 := B2.out.size
    have s23 := B3.out.size
    have s34 := B4.out.size
    have s45 := B5.out.size
    have s56 := B6.out.size
    have s67 := B7.out.size
    have s78 := B8.out.size
    refine PM.build hbx (by omega) hst (by omega) (by have := HN.out; omega) ((OC.out.below (bl B48.out B9.out)).mono (by omega)) ((OH.out.below (bl B58.out B9.out)).mono (by omega)) ((OO.out.below (bl B68.out B9.out)).mono (by omega)) ((OA.out.below (bl B78.out B9.out)).mono (by omega)) ((OT.out.below (bl B8.out B9.out)).mono (by omega)) ?_ ?_ ?_ ?_ ?_ ?_
    · exact apt_lt OH.out OO.out (Nat.le_refl _)
    · exact apt_lt OH.out OA.out (by omega)
    · exact apt_lt OH.out OT.out (by omega)
    · exact apt_lt OO.out OA.out (Nat.le_refl _)
    · exact apt_lt OO.out OT.out (by omega)
    · exact apt_lt OA.out OT.out (Nat.le_refl _)
  have RB2 : Hid (Rd w9 aB2 has.length (u8s has)) := OB.out.rd.below B9.out
  have B19 : Hid (Below w.heap.size w w9) := bl C8.out B9.out
  have hsz : w1.heap.size ≤ w9.heap.size := (bl (bl B2.out B38.out) B9.out).size
  have hw1 : Hid (w.heap.size ≤ w1.heap.size) := B1.out.size
  have FRB : Hid (∀ b off, aB2 = some ⟨b, off, none⟩ → ¬ verFr pb ⟨some ⟨w8.heap.size, 0, none⟩, aC2, aH2, aO2, aA2, aT2, P.st.length, cC2, cH2, cO2, cA2, cT2⟩ b ∧ ¬ pickFr pb ⟨some ⟨w8.heap.size, 0, none⟩, aC2, aH2, aO2, aA2, aT2, P.st.length, cC2, cH2, cO2, cA2, cT2⟩ b) := by
    intro b off e
    have h1 := OB.out.lt e
    have s37 := (bl (bl (bl B4.out B5.out) B6.out) B7.out).size
    have s47 := (bl (bl B5.out B6.out) B7.out).size
    have s57 := (bl B6.out B7.out).size
    have s67 := B7.out.size
    have s78 := B8.out.size
    refine ⟨fun h => ?_, fun h => ?_⟩
    · rcases h with h | h | h | h | h | h
      · omega
      · have := congrArg (Option.map Addr.block) h; simp at this; omega
      · have := OC.out.lt h; omega
      · have := OO.out.lt h; omega
      · have := OA.out.lt h; omega
      · have := OT.out.lt h; omega
    · rcases h with h | h | h
      · omega
      · have := congrArg (Option.map Addr.block) h; simp at this; omega
      · have := OC.out.lt h; omega
  have hvB : Hid (∀ k, verFr pb ⟨some ⟨w8.heap.size, 0, none⟩, aC2, aH2, aO2, aA2, aT2, P.st.length, cC2, cH2, cO2, cA2, cT2⟩ k → w1.heap.size ≤ k) := by
    rintro k (rfl | e | e | e | e | e)
    · exact hM.out.hB
    · exact (hM.out.s.lt e).1
    · exact (hM.out.c.lt e).1
    · exact (hM.out.o.lt e).1
    · exact (hM.out.a.lt e).1
    · exact (hM.out.t.lt e).1
  have hpB : Hid (∀ k, pickFr pb ⟨some ⟨w8.heap.size, 0, none⟩, aC2, aH2, aO2, aA2, aT2, P.st.length, cC2, cH2, cO2, cA2, cT2⟩ k → w1.heap.size ≤ k) := by
    rintro k (rfl | e | e)
    · exact hM.out.hB
    · exact (hM.out.s.lt e).1
    · exact (hM.out.c.lt e).1
  generalize (⟨some ⟨w8.heap.size, 0, none⟩, aC2, aH2, aO2, aA2, aT2, P.st.length, cC2, cH2, cO2, cA2, cT2⟩ : Ad) = D at hM hvB hpB FRB
  clear hbx hst hb9 hpb B1 B2 B3 B4 B5 B6 B7 B8 B9 B78 B68 B58 B48 B38 C1 C2 C3 C4 C5 C6 C7 C8 OS OC OH OO OA OT OB
  go_wp2_with fail
  refine Calls.mono (verify_pm w9 w1.heap.size pb D P x hM.out HVO.out) ?_
  rintro e w10 ⟨rfl, hM2, hf10⟩
  have HM2 := hd hM2
  have RB3 := hd (RB2.out.fr hf10 fun b off e => (FRB.out b off e).1)
  have B10 := hd (hf10.below (B := w1.heap.size) fun k hk => ⟨by omega, fun h => by have := hvB.out k h; omega⟩)
  have HS1 := hd hf10.size
  clear hM2 hf10 RB2 hM
  go_wp2_with fail
  refine Calls.mono (pick_pm w10 w1.heap.size pb D (verifyF P x) aB2 none has.length cB2 0 0 has [] queue HM2.out HPk.out RB3.out ⟨rfl, Nat.zero_le _, fun i hi => absurd hi (Nat.not_lt_zero i)⟩ hq3.out hq4.out) ?_
  rintro e w11 ⟨rfl, hM3, hf11⟩
  have HM3 := hd hM3
  have B11 := hd (hf11.below (B := w1.heap.size) fun k hk => ⟨by have := HS1.out; omega, fun h => by have := hpB.out k h; omega⟩)
  have BE : Hid (Below w.heap.size w w11) := (B19.out.trans (B10.out.mono hw1.out)).trans (B11.out.mono hw1.out)
  clear hM3 hf11
  have HNV := hd (ver_never HVO.out has [] queue)
  have HR0 : Hid (∀ y, pickF (verifyF P x) has [] queue = some y → 0 ≤ y) := fun y hy => (HPk.out.inn y (pickF_in hy)).1
  generalize hr : pickF (verifyF P x) has [] queue = r at HNV HR0 HM3 ⊢
  clear hr
  have HST2 := hd (picked_st (ver_st HVO.out) x0 HNV.out HR0.out)
  have HLN : Hid ((pickedF (verifyF P x) r).st.length = P.st.length) := by
    show _ = _
    rw [picked_len]
    obtain ⟨P3, e, _, _, _, _, _, _, e1, _⟩ := verEnd HVO.out
    rw [e]
    show P3.st.length = _
    rw [e1, verHead_lens.1]
  obtain ⟨d0, _⟩ := HM3.out.box.cells
  have RS3 := hd HM3.out.s.rd
  have K25 := hd (states_any pb (pickedF (verifyF P x) r).st.length D.cs D.s (pickedF (verifyF P x) r).st w11 d0 RS3.out)
  rw [HLN.out] at K25
  generalize (pickedF (verifyF P x) r).st = st3 at K25 HST2
  clear d0 HM3 RS3 HLN
  cases r with
  | none =>
    rw [found_none]
    go_wp2_with ((go_at_call 25; refine Calls.mono K25.out ?_; rintro e w12 ⟨rfl, hO12, hb12⟩; obtain ⟨g, eg, _, _, _, ⟨v, hv, cv⟩, _⟩ := hO12.at (i := x.toNat) (by omega); cases eg; obtain rfl : v = .int .u8 2 := (st_val HST2.out hv); have B12 := hd hb12; clear hO12 hb12 hv))
    go_ret
    exact ⟨rfl, bl BE.out B12.out⟩
  | some j =>
    rw [found_some]
    have hjx : (j != x) = true := bne_iff_ne.2 fun e => HNV.out (by rw [e])
    clear HNV HR0
    go_wp2_with ((go_at_call 25; refine Calls.mono K25.out ?_; rintro e w12 ⟨rfl, hO12, hb12⟩; obtain ⟨g, eg, _, _, _, ⟨v, hv, cv⟩, _⟩ := hO12.at (i := x.toNat) (by omega); cases eg; obtain rfl : v = .int .u8 2 := (st_val HST2.out hv); have B12 := hd hb12; clear hO12 hb12 hv))
    go_ret
    exact ⟨rfl, bl BE.out B12.out⟩
end Go.Proofs.Qxb6602173a
