import Derived.Test.Qxb6602173aValid
namespace Go.Proofs.Qxb6602173a
open Go.RowKit
set_option linter.unusedVariables false
set_option linter.unusedSimpArgs false

def Says (b : Bool) (P : Pk) : Prop := b = true ↔ Valid P
theorem says_no {P : Pk} (h : ¬ Valid P) : Says false P := ⟨fun e => (by cases e), fun v => absurd v h⟩

def PostV (P : Pk) (w : World) (e : Ending) (w' : World) : Prop := ∃ b, e = .returned (.bool b) ∧ Says b P ∧ Below w.heap.size w w'

/-- What the rest of pkValid is owed behind the first loop. -/
structure VHead (P : Pk) : Prop where
  sec : P.sec.length = P.st.length
  held : P.held.length = P.st.length
  at_ : P.at_.length = P.st.length
  sts : ∀ i y, P.st[i]? = some y → StOk P i y
  nv : (P.st.countP (· == 2) : Int) = P.ver
  na : (P.st.countP (· == 1) : Int) = P.act
  ordl : (P.ord.length : Int) = P.st.length - P.ver
  k1 : 1 ≤ P.starts.length

theorem no_st {P : Pk} {i : Nat} {y : Int} (hy : P.st[i]? = some y) (h : ¬ StOk P i y) : ¬ Valid P := fun v => h (v.sts i y hy)
theorem no_ord {P : Pk} {q : Nat} {j : Int} (hj : P.ord[q]? = some j) (h : ¬ OrdOk P q j) : ¬ Valid P := fun v => h (v.ords q j hj)

def FullB (w : World) (g : Nat) (bs : List Bool) : Prop := w.heap[g]? = some (.cells (bools bs).toArray 4 (0, 0))
theorem FullB.cell {w : World} {g : Nat} {bs : List Bool} (h : FullB w g bs) {i : Nat} {x : Bool} (hx : bs[i]? = some x) : w.cell? ⟨g, i, none⟩ = some (.bool x) ∧ w.frozen? ⟨g, i, none⟩ = false := by
  unfold FullB at h
  constructor
  · simp only [World.cell?, h]
    simp [bools, hx]
  · simp [World.frozen?, h]
theorem FullB.set {w : World} {g : Nat} {bs : List Bool} (h : FullB w g bs) (i : Nat) (x : Bool) : FullB (w.setCell ⟨g, i, none⟩ (.bool x)) g (bs.set i x) := by
  unfold FullB at h ⊢
  rw [heap_setCell_at h, ← set_bools]
  simp
theorem FullB.drewN {w : World} {g : Nat} {bs : List Bool} (h : FullB w g bs) (q : Nat) : FullB (w.drewN q) g bs := h
theorem all_of_V1 {P : Pk} {n m : Nat} (hl : P.st.length = n) (h : V1 P m) (hm : ¬ m < n) : ∀ i y, P.st[i]? = some y → StOk P i y := by
  intro i y hy
  refine h i y ?_ hy
  have := (List.getElem?_eq_some_iff.1 hy).1
  omega
theorem all_of_V2 {P : Pk} {n m : Nat} (hl : P.ord.length = n) (h : V2 P m) (hm : ¬ m < n) : ∀ q j, P.ord[q]? = some j → OrdOk P q j := by
  intro i y hy
  refine h i y ?_ hy
  have := (List.getElem?_eq_some_iff.1 hy).1
  omega
theorem cv_all {P : Pk} {n m : Nat} (hl : P.st.length = n) (hm : ¬ m < n) : cv P m = P.st.countP (· == 2) := by
  unfold cv; rw [List.take_of_length_le (by omega)]
theorem ca_all {P : Pk} {n m : Nat} (hl : P.st.length = n) (hm : ¬ m < n) : ca P m = P.st.countP (· == 1) := by
  unfold ca; rw [List.take_of_length_le (by omega)]
theorem starts_in {P : Pk} {n k : Nat} (h : ∀ q j, P.ord[q]? = some j → OrdOk P q j) (hl : P.st.length = n) (hk : P.starts.length = k) : ∀ j ∈ P.ord, j ≠ -1 → 0 ≤ j ∧ j < n ∧ 0 ≤ heldAt P.held j ∧ heldAt P.held j < k := by
  intro j hj _
  obtain ⟨q, hq⟩ := List.getElem?_of_mem hj
  have := h q j hq
  exact ⟨this.j0, by rw [← hl]; exact this.j1, this.h0, by rw [← hk]; exact this.h1⟩
theorem says_end {P : Pk} {k : Nat} (h : VHead P) (ho : ∀ q j, P.ord[q]? = some j → OrdOk P q j) (hk : P.starts.length = k) : Says (decide (P.starts = startsOf P.held P.ord (-1) k)) P := by
  unfold Says
  rw [decide_eq_true_iff, ← hk]
  exact ⟨fun e => ⟨h.sec, h.held, h.at_, h.sts, h.nv, h.na, h.ordl, h.k1, ho, e⟩, fun v => v.starts⟩
theorem seen_no {P : Pk} {q : Nat} {j : Int} (h : V2 P q) (hs : inB (P.ord.take q) j = true) : ¬ OrdOk P q j := by
  intro ok
  rw [inB_iff] at hs
  obtain ⟨m, hm⟩ := List.getElem?_of_mem hs
  rw [List.getElem?_take] at hm
  split at hm
  · rename_i hlt
    have := (h m j hlt hm).at_
    rw [ok.at_] at this
    injection this with this
    omega
  · cases hm

set_option maxHeartbeats 2000000 in
set_option maxRecDepth 100000 in
theorem valid_any (P : Pk) (aS aC aH aO aA aT : Option Addr) (n cS nC cC nH cH nO cO nA cA k cT : Nat) (w : World) (hS : Rd w aS n (u8s P.st)) (hC : Rd w aC nC (bools P.sec)) (hH : Rd w aH nH (ints P.held))
    (hO : Rd w aO nO (ints P.ord)) (hA : Rd w aA nA (ints P.at_)) (hT : Rd w aT k (ints P.starts)) :
    Calls Try.prog 11 #[.slice aS n cS, .int .i64 P.ver, .int .i64 P.act, .slice aC nC cC, .slice aH nH cH, .slice aO nO cO, .slice aA nA cA, .slice aT k cT] w fun e w' => PostV P w e w' := by
  have hsn := hS.small
  have hso := hO.small
  have hsk := hT.small
  have HLS : Hid (P.st.length = n) := by have := hS.len; rwa [u8s_length] at this
  have HLC : Hid (P.sec.length = nC) := by have := hC.len; rwa [bools_length] at this
  have HLH : Hid (P.held.length = nH) := by have := hH.len; rwa [ints_length] at this
  have HLO : Hid (P.ord.length = nO) := by have := hO.len; rwa [ints_length] at this
  have HLA : Hid (P.at_.length = nA) := by have := hA.len; rwa [ints_length] at this
  have HLT : Hid (P.starts.length = k) := by have := hT.len; rwa [ints_length] at this
  have RS : Hid (Rd w aS n (u8s P.st)) := hS
  have RC : Hid (Rd w aC nC (bools P.sec)) := hC
  have RH : Hid (Rd w aH nH (ints P.held)) := hH
  have RO : Hid (Rd w aO nO (ints P.ord)) := hO
  have RA : Hid (Rd w aA nA (ints P.at_)) := hA
  have RT : Hid (Rd w aT k (ints P.starts)) := hT
  clear hS hC hH hO hA hT
  obtain ⟨ver, hver⟩ : ∃ v, P.ver = v := ⟨_, rfl⟩
  obtain ⟨act, hact⟩ : ∃ v, P.act = v := ⟨_, rfl⟩
  rw [hver, hact]
  have HV : Hid (P.ver = ver) := hver
  have HAc : Hid (P.act = act) := hact
  clear hver hact
  by_cases h1 : nC ≠ n
  · have hb : ((nC : Int) != (n : Int)) = true := by simp; omega
    have HN : Hid (¬ Valid P) := fun v => h1 (by rw [← HLC.out, ← HLS.out]; exact v.sec)
    clear h1
    go_enter Try.func11, Try.ntmps11
    go_wp2
    go_ret
    exact ⟨_, rfl, says_no HN.out, Below.refl _ _⟩
  obtain rfl : nC = n := Decidable.not_not.1 h1
  clear h1
  by_cases h2 : nH ≠ nC
  · have hb : ((nH : Int) != (nC : Int)) = true := by simp; omega
    have HN : Hid (¬ Valid P) := fun v => h2 (by rw [← HLH.out, ← HLS.out]; exact v.held)
    clear h2
    go_enter Try.func11, Try.ntmps11
    go_wp2
    go_ret
    exact ⟨_, rfl, says_no HN.out, Below.refl _ _⟩
  obtain rfl : nH = nC := Decidable.not_not.1 h2
  clear h2
  by_cases h3 : nA ≠ nH
  · have hb : ((nA : Int) != (nH : Int)) = true := by simp; omega
    have HN : Hid (¬ Valid P) := fun v => h3 (by rw [← HLA.out, ← HLS.out]; exact v.at_)
    clear h3
    go_enter Try.func11, Try.ntmps11
    go_wp2
    go_ret
    exact ⟨_, rfl, says_no HN.out, Below.refl _ _⟩
  obtain rfl : nA = nH := Decidable.not_not.1 h3
  clear h3
  go_enter Try.func11, Try.ntmps11
  go_wp2
  go_loop [18, 19, 20] (fun v a i => ∃ m : Nat, m ≤ nA ∧ i = .int .i64 m ∧ v = .int .i64 (cv P m : Int) ∧ a = .int .i64 (ca P m : Int) ∧ Hid (V1 P m)) (fun _ _ i => nA - (intOf i).toNat)
  case atStart => exact ⟨0, Nat.zero_le _, rfl, rfl, rfl, V1.zero P⟩
  case round =>
    obtain ⟨m, hm, rfl, rfl, rfl, HV1⟩ := hrel
    have hcv := cv_le P m
    have hca := ca_le P m
    by_cases hlt : m < nA
    · obtain ⟨b1, o1, y, rfl, e1, g1⟩ := RS.out.u8 hlt
      obtain ⟨b2, o2, c, rfl, e2, g2⟩ := RC.out.bool hlt
      have E1 : Hid (P.st[m]? = some y) := e1
      have E2 : Hid (P.sec[m]? = some c) := e2
      have C1 : Hid _ := cv_succ e1
      have C2 : Hid _ := ca_succ e1
      clear e1 e2
      obtain ⟨cv0, hcv0⟩ : ∃ v, cv P m = v := ⟨_, rfl⟩
      obtain ⟨ca0, hca0⟩ : ∃ v, ca P m = v := ⟨_, rfl⟩
      rw [hcv0] at C1 hcv ⊢
      rw [hca0] at C2 hca ⊢
      clear hcv0 hca0
      by_cases y2 : y = 2
      · subst y2
        cases c with
        | false =>
          go_wp2
          go_round
          case rel => exact ⟨m + 1, by omega, by go_num, by rw [C1.out]; go_num, by rw [C2.out]; go_num, HV1.out.succ E1.out ⟨by omega, by simp [E2.out]⟩⟩
          case measure => simp [intOf]; omega

        | true =>
          have HN : Hid (¬ Valid P) := no_st E1.out fun h => absurd (h.2 E2.out) (by decide)
          go_wp2
          go_ret
          exact ⟨_, rfl, says_no HN.out, Below.refl _ _⟩

      by_cases y1 : y = 1
      · subst y1
        cases c with
        | false =>
          go_wp2
          go_round
          case rel => exact ⟨m + 1, by omega, by go_num, by rw [C1.out]; go_num, by rw [C2.out]; go_num, HV1.out.succ E1.out ⟨by omega, by simp [E2.out]⟩⟩
          case measure => simp [intOf]; omega

        | true =>
          go_wp2
          go_round
          case rel => exact ⟨m + 1, by omega, by go_num, by rw [C1.out]; go_num, by rw [C2.out]; go_num, HV1.out.succ E1.out ⟨by omega, by simp [E2.out]⟩⟩
          case measure => simp [intOf]; omega

      by_cases y0 : y = 0
      · subst y0
        cases c with
        | false =>
          go_wp2
          go_round
          case rel => exact ⟨m + 1, by omega, by go_num, by rw [C1.out]; go_num, by rw [C2.out]; go_num, HV1.out.succ E1.out ⟨by omega, by simp [E2.out]⟩⟩
          case measure => simp [intOf]; omega

        | true =>
          have HN : Hid (¬ Valid P) := no_st E1.out fun h => absurd (h.2 E2.out) (by decide)
          go_wp2
          go_ret
          exact ⟨_, rfl, says_no HN.out, Below.refl _ _⟩

      · have HN : Hid (¬ Valid P) := no_st E1.out fun h => by rcases h.1 with h | h | h; exact y0 h; exact y1 h; exact y2 h
        have b2 : (y == 2) = false := beq_eq_false_iff_ne.2 y2
        have b1' : (y == 1) = false := beq_eq_false_iff_ne.2 y1
        have b0 : (y != 0) = true := bne_iff_ne.2 y0
        clear y2 y1 y0
        go_wp2
        go_ret
        exact ⟨_, rfl, says_no HN.out, Below.refl _ _⟩

    · have HA1 : Hid (∀ i y, P.st[i]? = some y → StOk P i y) := all_of_V1 HLS.out HV1.out hlt
      have C1 : Hid (cv P m = P.st.countP (· == 2)) := cv_all HLS.out hlt
      have C2 : Hid (ca P m = P.st.countP (· == 1)) := ca_all HLS.out hlt
      obtain ⟨cv0, hcv0⟩ : ∃ v, cv P m = v := ⟨_, rfl⟩
      obtain ⟨ca0, hca0⟩ : ∃ v, ca P m = v := ⟨_, rfl⟩
      rw [hcv0] at C1 hcv ⊢
      rw [hca0] at C2 hca ⊢
      clear hcv0 hca0 HV1
      by_cases t1 : (cv0 : Int) ≠ ver
      · have HN : Hid (¬ Valid P) := fun v => t1 (by rw [C1.out, ← HV.out]; exact v.nv)
        have b1 : ((cv0 : Int) != ver) = true := bne_iff_ne.2 t1
        clear t1
        go_wp2
        go_ret
        exact ⟨_, rfl, says_no HN.out, Below.refl _ _⟩
      obtain rfl : (cv0 : Int) = ver := Decidable.not_not.1 t1
      clear t1
      by_cases t2 : (ca0 : Int) ≠ act
      · have HN : Hid (¬ Valid P) := fun v => t2 (by rw [C2.out, ← HAc.out]; exact v.na)
        have b1 : ((ca0 : Int) != act) = true := bne_iff_ne.2 t2
        clear t2
        go_wp2
        go_ret
        exact ⟨_, rfl, says_no HN.out, Below.refl _ _⟩
      obtain rfl : (ca0 : Int) = act := Decidable.not_not.1 t2
      clear t2
      by_cases t3 : (nO : Int) ≠ (nA : Int) - (cv0 : Int)
      · have HN : Hid (¬ Valid P) := fun v => t3 (by have := v.ordl; rw [HLO.out, HLS.out, HV.out] at this; exact this)
        have b1 : ((nO : Int) != (nA : Int) - (cv0 : Int)) = true := bne_iff_ne.2 t3
        clear t3
        go_wp2
        go_ret
        exact ⟨_, rfl, says_no HN.out, Below.refl _ _⟩
      have T3' : (nO : Int) = (nA : Int) - (cv0 : Int) := Decidable.not_not.1 t3
      have T3 : Hid ((nO : Int) = (nA : Int) - (cv0 : Int)) := T3'
      have b3 : ((nO : Int) != (nA : Int) - (cv0 : Int)) = false := by simp; exact T3.out
      clear t3 T3'
      by_cases t4 : k < 1
      · have HN : Hid (¬ Valid P) := fun v => by have := v.k1; rw [HLT.out] at this; omega
        go_wp2
        go_ret
        exact ⟨_, rfl, says_no HN.out, Below.refl _ _⟩
      have HD : Hid (VHead P) := ⟨by rw [HLC.out, HLS.out], by rw [HLH.out, HLS.out], by rw [HLA.out, HLS.out], HA1.out, by rw [← C1.out, HV.out], by rw [← C2.out, HAc.out], by rw [HLO.out, HLS.out, HV.out]; exact T3.out, by rw [HLT.out]; omega⟩
      clear HA1 C1 C2 HV HAc T3
      obtain ⟨i0, hi, hz0, hz1, hz2⟩ := info_parts Try.info4
      go_wp2_with (first | (at_make; refine wpList_make_full _ rfl _ _ 23 rfl w.heap.size 4 i0 (.bool false) 1 Try.underlying23 hi hz0 hz1 .i64 .i64 nA nA nA rfl rfl rfl rfl (by rw [hz2]; omega) (by unfold maxLen; omega) (Nat.le_refl _) ?_; intro w1 ho hg; have hbk := made_block (by rfl) ho; have hbel := below_grown hg; clear ho hg))
      clear hi hz0 hz1 hz2 b3
      go_loopw [24] (fun i wr => ∃ q : Nat, q ≤ nO ∧ i = .int .i64 q ∧ Hid (V2 P q) ∧ Hid (FullB wr w.heap.size (seenL P q)) ∧ Hid (Below w.heap.size w wr)) (fun i _ => nO - (intOf i).toNat)
      case atStart => exact ⟨0, Nat.zero_le _, rfl, V2.zero P, by show FullB _ _ _; unfold FullB; rw [seenL_zero, HLS.out]; exact hbk, hbel⟩
      case round =>
        obtain ⟨q, hq, rfl, HV2, HF, HB⟩ := hrel
        clear hbk hbel
        by_cases hlt : q < nO
        · obtain ⟨bO, oO, j, rfl, e1, g1⟩ := (RO.out.below HB.out).int hlt
          have hbO : bO < w.heap.size := by obtain ⟨b, o, e, h⟩ := RO.out.lt (by omega : 0 < nO); cases e; exact h
          have E1 : Hid (P.ord[q]? = some j) := e1
          clear e1
          by_cases c1 : j < 0
          · have HN : Hid (¬ Valid P) := no_ord E1.out fun h => by have := h.j0; omega
            go_wp2
            go_ret
            exact ⟨_, rfl, says_no HN.out, HB.out⟩
          by_cases c2 : (nA : Int) ≤ j
          · have HN : Hid (¬ Valid P) := no_ord E1.out fun h => by have := h.j1; rw [HLS.out] at this; omega
            go_wp2
            go_ret
            exact ⟨_, rfl, says_no HN.out, HB.out⟩
          have c1' : 0 ≤ j := by omega
          have c2' : j < (nA : Int) := by omega
          clear c1 c2
          have hjt : ((j.toNat : Nat) : Int) = j := by omega
          have hget : (seenL P q)[j.toNat]? = some (inB (P.ord.take q) j) := by rw [seenL_get (by rw [HLS.out]; omega), hjt]
          clear hjt
          obtain ⟨g2, f2⟩ := HF.out.cell hget
          clear hget
          obtain ⟨sb, hsb⟩ : ∃ v, inB (P.ord.take q) j = v := ⟨_, rfl⟩
          rw [hsb] at g2
          have HSb : Hid (inB (P.ord.take q) j = sb) := hsb
          clear hsb
          cases sb with
          | true =>
            have HN : Hid (¬ Valid P) := no_ord E1.out (seen_no HV2.out HSb.out)
            go_wp2
            go_ret
            exact ⟨_, rfl, says_no HN.out, HB.out⟩
          | false =>
            obtain ⟨bS, oS, y, rfl, e3, g3⟩ := (RS.out.below HB.out).u8 (i := j.toNat) (by omega)
            have E3 : Hid (P.st[j.toNat]? = some y) := e3
            clear e3
            by_cases c4 : y = 2
            · subst c4
              have HN : Hid (¬ Valid P) := no_ord E1.out fun h => h.st E3.out
              go_wp2
              go_ret
              exact ⟨_, rfl, says_no HN.out, HB.out⟩
            have b4 : (y == 2) = false := beq_eq_false_iff_ne.2 c4
            have C4 : Hid (¬ y = 2) := c4
            clear c4
            obtain ⟨bA, oA, ax, rfl, e5, g5⟩ := (RA.out.below HB.out).int (i := j.toNat) (by omega)
            have E5 : Hid (P.at_[j.toNat]? = some ax) := e5
            clear e5
            by_cases c5 : ax ≠ (q : Int)
            · have HN : Hid (¬ Valid P) := no_ord E1.out fun h => c5 (by have := h.at_; rw [E5.out] at this; exact Option.some.inj this)
              have b5 : (ax != (q : Int)) = true := bne_iff_ne.2 c5
              clear c5
              go_wp2
              go_ret
              exact ⟨_, rfl, says_no HN.out, HB.out⟩
            obtain rfl : ax = (q : Int) := Decidable.not_not.1 c5
            clear c5
            obtain ⟨bH, oH, hv, rfl, e6, g6⟩ := (RH.out.below HB.out).int (i := j.toNat) (by omega)
            have hbH : bH < w.heap.size := by obtain ⟨b, o, e, h⟩ := RH.out.lt (by omega : 0 < nA); cases e; exact h
            have E6 : Hid (heldAt P.held j = hv) := by show _ = _; unfold heldAt; rw [List.getD, e6]; rfl
            clear e6
            have n1 : ¬ bO = w.heap.size := by omega
            have n2 : ¬ bH = w.heap.size := by omega
            have n3 : ¬ w.heap.size = bO := by omega
            have n4 : ¬ w.heap.size = bH := by omega
            by_cases c6 : hv < 0
            · have HN : Hid (¬ Valid P) := no_ord E1.out fun h => by have := h.h0; rw [E6.out] at this; omega
              go_wp2
              go_ret
              exact ⟨_, rfl, says_no HN.out, HB.out.setCell (Nat.le_refl _) _⟩
            by_cases c7 : (k : Int) ≤ hv
            · have HN : Hid (¬ Valid P) := no_ord E1.out fun h => by have := h.h1; rw [E6.out, HLT.out] at this; omega
              go_wp2
              go_ret
              exact ⟨_, rfl, says_no HN.out, HB.out.setCell (Nat.le_refl _) _⟩
            have c6' : 0 ≤ hv := by omega
            have c7' : hv < (k : Int) := by omega
            clear c6 c7
            have HS2 : Hid (seenL P (q + 1) = (seenL P q).set j.toNat true) := seenL_succ E1.out c1'
            by_cases c8 : 0 < q
            · obtain ⟨bO', oO', ip, e8, e7, g7⟩ := (RO.out.below HB.out).int (i := q - 1) (by omega)
              cases e8
              have hok := HV2.out (q - 1) ip (by omega) e7
              have E7 : Hid (P.ord[q - 1]? = some ip) := e7
              have i0' := hok.j0
              have i1' : ip < (nA : Int) := by have := hok.j1; rw [HLS.out] at this; exact this
              clear e7 hok
              obtain ⟨bH', oH', hp, e10, e9, g9⟩ := (RH.out.below HB.out).int (i := ip.toNat) (by omega)
              cases e10
              have E9 : Hid (heldAt P.held ip = hp) := by show _ = _; unfold heldAt; rw [List.getD, e9]; rfl
              clear e9
              have c8' : (0 : Int) < (q : Int) := by omega
              have hq1 : ((q : Int) - 1).toNat = q - 1 := by omega
              have hq2 : 0 ≤ (q : Int) - 1 := by omega
              have hq3 : (q : Int) - 1 < (nO : Int) := by omega
              by_cases c9 : hv < hp
              · have HN : Hid (¬ Valid P) := no_ord E1.out fun h => by have := h.srt ip c8 E7.out; rw [E6.out, E9.out] at this; omega
                go_wp2
                go_quiet (fail)
                go_wp2
                go_ret
                exact ⟨_, rfl, says_no HN.out, below_drewN (HB.out.setCell (Nat.le_refl _) _) _⟩
              · have OK : Hid (OrdOk P q j) := ⟨c1', by rw [HLS.out]; exact c2', fun e => C4.out (by rw [E3.out] at e; exact Option.some.inj e), E5.out, by rw [E6.out]; exact c6', by rw [E6.out, HLT.out]; exact c7', fun i _ hi => by rw [E7.out] at hi; cases hi; rw [E9.out, E6.out]; omega⟩
                go_wp2
                go_quiet (fail)
                go_wp2
                go_roundw
                case rel => exact ⟨q + 1, by omega, by go_num, HV2.out.succ E1.out OK.out, by show FullB _ _ _; rw [HS2.out]; exact (HF.out.set _ _).drewN _, below_drewN (HB.out.setCell (Nat.le_refl _) _) _⟩
                case measure => simp [intOf]; omega
            · have c8' : decide ((0 : Int) < (q : Int)) = false := by simp; omega
              have OK : Hid (OrdOk P q j) := ⟨c1', by rw [HLS.out]; exact c2', fun e => C4.out (by rw [E3.out] at e; exact Option.some.inj e), E5.out, by rw [E6.out]; exact c6', by rw [E6.out, HLT.out]; exact c7', fun i h0 hi => absurd h0 c8⟩
              go_wp2
              go_quiet (fail)
              go_wp2
              go_roundw
              case rel => exact ⟨q + 1, by omega, by go_num, HV2.out.succ E1.out OK.out, by show FullB _ _ _; rw [HS2.out]; exact (HF.out.set _ _).drewN _, below_drewN (HB.out.setCell (Nat.le_refl _) _) _⟩
              case measure => simp [intOf]; omega
        · have HO2 : Hid (∀ q j, P.ord[q]? = some j → OrdOk P q j) := all_of_V2 HLO.out HV2.out hlt
          have HIn : Hid _ := starts_in HO2.out HLS.out HLT.out
          have R1 : Hid (Rd wr aH nA (ints P.held)) := RH.out.below HB.out
          have R2 : Hid (Rd wr aO nO (ints P.ord)) := RO.out.below HB.out
          have R3 : Hid (Rd wr aT k (ints P.starts)) := RT.out.below HB.out
          have HSL : Hid ((ints (startsOf P.held P.ord (-1) k)).length = k) := by show _ = _; rw [ints_length, startsOf_length]
          go_wp2_with (first | (go_at_call 23; refine (startsOf_any aH aO nA cH nO cO k P.held P.ord (-1) wr R1.out R2.out hsk HIn.out).mono ?_; rintro e w2 ⟨g, rfl, hfu, hb2, hgw⟩; have FU : Hid (Full w2 g 3 (ints (startsOf P.held P.ord (-1) k))) := hfu; have B2 : Hid (Below wr.heap.size wr w2) := hb2; clear hfu hb2 hgw) | (go_at_call 35; refine (eqInts_any aT (some ⟨g, 0, none⟩) k k cT k P.starts (startsOf P.held P.ord (-1) k) w2 (R3.out.below B2.out) (Own.fresh (B := 0) FU.out (Nat.zero_le _) HSL.out hsk).rd).mono ?_; rintro e w3 ⟨rfl, m3, rfl⟩))
          go_ret
          exact ⟨_, rfl, says_end HD.out HO2.out HLT.out, below_drewN (HB.out.trans (B2.out.mono HB.out.size)) _⟩
end Go.Proofs.Qxb6602173a
