import Derived.Test.Qxb6602173aPick1
namespace Go.Proofs.Qxb6602173a
open Go.RowKit
set_option linter.unusedVariables false
set_option linter.unusedSimpArgs false

def wantF (st has : List Int) (i : Int) : Bool := (st.getD i.toNat 0 == 0) && hasB has i

/-- What a search hands back. -/
def found (r : Option Int) : Ending := .returned (.tuple #[.int .i64 (r.getD 0), .bool r.isSome])

theorem found_no {p : Int → Bool} {l : List Int} (h : l.find? p = none) : Ending.returned (.tuple #[.int .i64 0, .bool false]) = found (l.find? p) := by rw [h]; rfl
theorem found_yes {p : Int → Bool} {l : List Int} {k : Nat} {x : Int} (h : (l.take k).find? p = none) (hk : l[k]? = some x) (hp : p x = true) : Ending.returned (.tuple #[.int .i64 x, .bool true]) = found (l.find? p) := by
  have e : l = l.take k ++ l.drop k := (List.take_append_drop k l).symm
  have h2 : (l.drop k).find? p = some x := by
    rw [List.drop_eq_getElem_cons (by rcases Nat.lt_or_ge k l.length with h | h; exact h; rw [List.getElem?_eq_none h] at hk; cases hk)]
    obtain ⟨hl, hx⟩ := List.getElem?_eq_some_iff.1 hk
    rw [hx, List.find?_cons_of_pos (by simpa using hp)]
  have h3 : l.find? p = some x := by rw [e, List.find?_append, h, h2]; rfl
  rw [h3]; rfl
theorem find_succ {p : Int → Bool} {l : List Int} {k : Nat} {x : Int} (h : (l.take k).find? p = none) (hk : l[k]? = some x) (hp : p x = false) : (l.take (k + 1)).find? p = none := by
  rw [take_succ_of hk, List.find?_append, h]; simp [hp]

set_option maxHeartbeats 400000 in
theorem find_any (pb : Nat) (aS aB aO aT : Option Addr) (n cS nb cB l cO k cT : Nat) (st has ord starts : List Int) (s : Nat) (w : World)
    (h0 : w.cell? ⟨pb, 0, none⟩ = some (.slice aS n cS)) (h6 : w.cell? ⟨pb, 6, none⟩ = some (.slice aO l cO)) (h8 : w.cell? ⟨pb, 8, none⟩ = some (.slice aT k cT))
    (hS : Rd w aS n (u8s st)) (hB : Rd w aB nb (u8s has)) (hO : Rd w aO l (ints ord)) (hT : Rd w aT k (ints starts)) (hcap : l ≤ cO) (hO0 : aO = none → cO = 0)
    (he : endF starts l 0 = s) (hsl : s ≤ l) (hin : ∀ x ∈ ord, 0 ≤ x ∧ x < n ∧ x < 8 * nb) :
    Calls Try.prog 41 #[.pointer (some ⟨pb, 0, none⟩), .slice aB nb cB] w fun e w' => e = found ((ord.drop s).find? (wantF st has)) ∧ ∃ n, w' = w.drewN n := by
  have HL : Hid (ord.length = l) := by have := hO.len; rw [ints_length] at this; exact this
  have hs1 := hO.small
  have HT : Hid (Rd w aT k (ints starts)) := hT
  have HO : Hid (Rd w aO l (ints ord)) := hO
  have HS : Hid (Rd w aS n (u8s st)) := hS
  have HB : Hid (Rd w aB nb (u8s has)) := hB
  have HE : Hid (endF starts l 0 = s) := he
  have HI : Hid (∀ x ∈ ord, 0 ≤ x ∧ x < n ∧ x < 8 * nb) := hin
  have hcend := fun wx (hh : wx = w) => hh
  clear hT hO hS hB he hin
  by_cases hlt : s < l
  · obtain ⟨b, o, x0, rfl, _, _⟩ := Rd.int HO.out hlt
    have hcs : ¬ cO = s := by omega
    have hend : ∀ q, Calls Try.prog 45 #[.pointer (some ⟨pb, 0, none⟩), .int .i64 0] (w.drewN q) fun e w' => e = .returned (.int .i64 (s : Int)) ∧ w' = w.drewN q := by
      intro q
      have := end_any pb 0 (some ⟨b, o, none⟩) aT l cO k cT starts (w.drewN q) (by omega) (by omega) h6 h8 HT.out
      rw [HE.out] at this
      exact this
    have HN : Hid _ := hend
    clear hend
    go_enter Try.func41, Try.ntmps41
    go_wp2
    go_quiet ((go_at_call 45; exact Calls.quiet_of_same (HN.out _)))
    go_wp2
    go_loopw [16] (fun i wr => ∃ j q : Nat, j ≤ l - s ∧ i = .int .i64 j ∧ wr = w.drewN q ∧ Hid (((ord.drop s).take j).find? (wantF st has) = none)) (fun i _ => l - s - (intOf i).toNat)
    case atStart => exact ⟨0, _, Nat.zero_le _, rfl, rfl, by simp [Hid]⟩
    case round =>
      obtain ⟨j, q, hj, rfl, rfl, HF⟩ := hrel
      by_cases hjl : j < l - s
      · obtain ⟨b', o', x, e', e1, g1⟩ := Rd.int HO.out (i := s + j) (by omega)
        cases e'
        have E1 : Hid ((ord.drop s)[j]? = some x) := by show _ = _; rw [List.getElem?_drop]; exact e1
        obtain ⟨hx0, hxn, hxb⟩ := HI.out x (List.mem_of_getElem? e1)
        obtain ⟨bS, oS, y, rfl, e2, g2⟩ := Rd.u8 HS.out (i := x.toNat) (by omega)
        have HW : Hid (wantF st has x = ((y == 0) && hasB has x)) := by show _ = _; unfold wantF; rw [List.getD, e2]; rfl
        have g3 : w.cell? ⟨b, o + s + j, none⟩ = some (.int .i64 x) := by rw [Nat.add_assoc]; exact g1
        clear e1 e2 g1
        have hjl' : (j : Int) < (l : Int) - (s : Int) := by omega
        have hxn' : x < (n : Int) := hxn
        by_cases hy : y = 0
        · subst hy
          cases hbit : hasB has x with
          | true =>
            have HC : Hid (∀ q, Calls Try.prog 46 #[.slice aB nb cB, .int .i64 x] (w.drewN q) fun e w' => e = .returned (.bool true) ∧ ∃ n, w' = (w.drewN q).drewN n) := fun q => by
              have := has_any x aB nb cB has (w.drewN q) hx0 hxb HB.out
              rw [hbit] at this
              exact this
            have HW2 : Hid (wantF st has x = true) := by show _ = _; rw [HW.out, hbit]; rfl
            clear hbit
            go_wp2_with (go_at_call 46; refine (HC.out _).mono ?_; rintro e w' ⟨rfl, m, rfl⟩)
            go_ret2
            exact ⟨found_yes HF.out E1.out HW2.out, _, rfl⟩
          | false =>
            have HC : Hid (∀ q, Calls Try.prog 46 #[.slice aB nb cB, .int .i64 x] (w.drewN q) fun e w' => e = .returned (.bool false) ∧ ∃ n, w' = (w.drewN q).drewN n) := fun q => by
              have := has_any x aB nb cB has (w.drewN q) hx0 hxb HB.out
              rw [hbit] at this
              exact this
            have HW2 : Hid (wantF st has x = false) := by show _ = _; rw [HW.out, hbit]; rfl
            clear hbit
            go_wp2_with (go_at_call 46; refine (HC.out _).mono ?_; rintro e w' ⟨rfl, m, rfl⟩)
            go_roundw
            case rel => exact ⟨j + 1, _, by omega, by go_num, rfl, find_succ HF.out E1.out HW2.out⟩
            case measure => simp [intOf]; omega
        · have HW2 : Hid (wantF st has x = false) := by show _ = _; rw [HW.out, beq_eq_false_iff_ne.2 hy]; rfl
          have hyb : (y == 0) = false := beq_eq_false_iff_ne.2 hy
          clear hy
          go_wp2_with fail
          go_roundw
          case rel => exact ⟨j + 1, _, by omega, by go_num, rfl, find_succ HF.out E1.out HW2.out⟩
          case measure => simp [intOf]; omega
      · go_wp2
        go_ret2
        refine ⟨found_no ?_, _, rfl⟩
        have := HF.out
        rw [List.take_of_length_le (by rw [List.length_drop, HL.out]; omega)] at this
        exact this
  · obtain rfl : s = l := by omega
    have hd : ord.drop s = [] := by rw [List.drop_eq_nil_iff, HL.out]; omega
    have HD : Hid (ord.drop s = []) := hd
    clear hd
    have hend : ∀ q, Calls Try.prog 45 #[.pointer (some ⟨pb, 0, none⟩), .int .i64 0] (w.drewN q) fun e w' => e = .returned (.int .i64 (s : Int)) ∧ w' = w.drewN q := by
      intro q
      have := end_any pb 0 aO aT s cO k cT starts (w.drewN q) (by omega) (by omega) h6 h8 HT.out
      rw [HE.out] at this
      exact this
    have HN : Hid _ := hend
    clear hend
    cases aO with
    | none =>
      obtain rfl := hO0 rfl
      obtain rfl : s = 0 := by omega
      go_enter Try.func41, Try.ntmps41
      go_wp2
      go_quiet ((go_at_call 45; exact Calls.quiet_of_same (HN.out _)))
      go_wp2
      refine wp_loop_rounds 1 ?_
      rw [rounds_succ]
      go_wp2
      go_ret2
      exact ⟨by rw [HD.out]; rfl, _, rfl⟩
    | some ad =>
      clear hO0
      rcases Decidable.em (cO = s) with rfl | hcs
      all_goals
        go_enter Try.func41, Try.ntmps41
        go_wp2
        go_quiet ((go_at_call 45; exact Calls.quiet_of_same (HN.out _)))
        go_wp2
        refine wp_loop_rounds 1 ?_
        rw [rounds_succ]
        go_wp2
        go_ret2
        exact ⟨by rw [HD.out]; rfl, _, rfl⟩

def wantC (sec : List Bool) (has fet : List Int) (i : Int) : Bool := (!(sec.getD i.toNat false)) && hasB has i && !(inB fet i)
def copyR (act : Int) (l : Nat) (r : Option Int) : Option Int := if act = l then r else none

set_option maxHeartbeats 1000000 in
theorem findCopy_any (pb : Nat) (aC aB aF aO aT : Option Addr) (act : Int) (n cC nb cB nf cF l cO k cT : Nat) (sec : List Bool) (has fet ord starts : List Int) (s : Nat) (w : World)
    (h2 : w.cell? ⟨pb, 2, none⟩ = some (.int .i64 act)) (h3 : w.cell? ⟨pb, 3, none⟩ = some (.slice aC n cC)) (h6 : w.cell? ⟨pb, 6, none⟩ = some (.slice aO l cO)) (h8 : w.cell? ⟨pb, 8, none⟩ = some (.slice aT k cT))
    (hC : Rd w aC n (bools sec)) (hB : Rd w aB nb (u8s has)) (hF : Rd w aF nf (ints fet)) (hO : Rd w aO l (ints ord)) (hT : Rd w aT k (ints starts)) (hcap : l ≤ cO) (hO0 : aO = none → cO = 0)
    (he : endF starts l 0 = s) (hsl : s ≤ l) (hin : ∀ x ∈ ord, 0 ≤ x ∧ x < n ∧ x < 8 * nb) :
    Calls Try.prog 42 #[.pointer (some ⟨pb, 0, none⟩), .slice aB nb cB, .slice aF nf cF] w fun e w' => e = found (copyR act l ((ord.drop s).find? (wantC sec has fet))) ∧ ∃ n, w' = w.drewN n := by
  have HL : Hid (ord.length = l) := by have := hO.len; rw [ints_length] at this; exact this
  have hs1 := hO.small
  have HT : Hid (Rd w aT k (ints starts)) := hT
  have HO : Hid (Rd w aO l (ints ord)) := hO
  have HS : Hid (Rd w aC n (bools sec)) := hC
  have HB : Hid (Rd w aB nb (u8s has)) := hB
  have HFe : Hid (Rd w aF nf (ints fet)) := hF
  have HE : Hid (endF starts l 0 = s) := he
  have HI : Hid (∀ x ∈ ord, 0 ≤ x ∧ x < n ∧ x < 8 * nb) := hin
  clear hT hO hC hB hF he hin
  by_cases hact : act = l
  · have HAct : Hid (copyR act l ((ord.drop s).find? (wantC sec has fet)) = (ord.drop s).find? (wantC sec has fet)) := if_pos hact
    have HG : Hid (∀ q, Calls Try.prog 47 #[.pointer (some ⟨pb, 0, none⟩)] (w.drewN q) fun e w' => e = .returned (.bool true) ∧ ∃ n, w' = (w.drewN q).drewN n) := fun q => by
      have := endGame_any pb act aO l cO (w.drewN q) h2 h6
      rw [beq_iff_eq.2 hact] at this
      exact this
    clear hact h2
    by_cases hlt : s < l
    · obtain ⟨b, o, x0, rfl, _, _⟩ := Rd.int HO.out hlt
      have hcs : ¬ cO = s := by omega
      have HN : Hid (∀ q, Calls Try.prog 45 #[.pointer (some ⟨pb, 0, none⟩), .int .i64 0] (w.drewN q) fun e w' => e = .returned (.int .i64 (s : Int)) ∧ w' = w.drewN q) := by
        intro q
        have := end_any pb 0 (some ⟨b, o, none⟩) aT l cO k cT starts (w.drewN q) (by omega) (by omega) h6 h8 HT.out
        rw [HE.out] at this
        exact this
      go_enter Try.func42, Try.ntmps42
      go_wp2_with (go_at_call 47; refine (HG.out 0).mono ?_; rintro e w' ⟨rfl, m, rfl⟩)
      go_quiet ((go_at_call 45; exact (HN.out _).mono fun _ _ h => ⟨h.1, _, h.2⟩))
      go_wp2
      go_loopw [21] (fun i wr => ∃ j q : Nat, j ≤ l - s ∧ i = .int .i64 j ∧ wr = w.drewN q ∧ Hid (((ord.drop s).take j).find? (wantC sec has fet) = none)) (fun i _ => l - s - (intOf i).toNat)
      case atStart => exact ⟨0, _, Nat.zero_le _, rfl, World.drewN_drewN _ _ _, by simp [Hid]⟩
      case round =>
        obtain ⟨j, q, hj, rfl, rfl, HF⟩ := hrel
        by_cases hjl : j < l - s
        · obtain ⟨b', o', x, e', e1, g1⟩ := Rd.int HO.out (i := s + j) (by omega)
          cases e'
          have E1 : Hid ((ord.drop s)[j]? = some x) := by show _ = _; rw [List.getElem?_drop]; exact e1
          obtain ⟨hx0, hxn, hxb⟩ := HI.out x (List.mem_of_getElem? e1)
          obtain ⟨bS, oS, y, rfl, e2, g2⟩ := Rd.bool HS.out (i := x.toNat) (by omega)
          have HW : Hid (wantC sec has fet x = ((!y) && hasB has x && !(inB fet x))) := by show _ = _; unfold wantC; rw [List.getD, e2]; rfl
          have g3 : w.cell? ⟨b, o + s + j, none⟩ = some (.int .i64 x) := by rw [Nat.add_assoc]; exact g1
          clear e1 e2 g1
          have hjl' : (j : Int) < (l : Int) - (s : Int) := by omega
          have hxn' : x < (n : Int) := hxn
          cases y with
          | true =>
            have HW2 : Hid (wantC sec has fet x = false) := by show _ = _; rw [HW.out]; rfl
            go_wp2_with fail
            go_roundw
            case rel => exact ⟨j + 1, _, by omega, by go_num, rfl, find_succ HF.out E1.out HW2.out⟩
            case measure => simp [intOf]; omega
          | false =>
            cases hbit : hasB has x with
            | false =>
              have HC : Hid (∀ q, Calls Try.prog 46 #[.slice aB nb cB, .int .i64 x] (w.drewN q) fun e w' => e = .returned (.bool false) ∧ ∃ n, w' = (w.drewN q).drewN n) := fun q => by
                have := has_any x aB nb cB has (w.drewN q) hx0 hxb HB.out
                rw [hbit] at this
                exact this
              have HW2 : Hid (wantC sec has fet x = false) := by show _ = _; rw [HW.out, hbit]; rfl
              clear hbit
              go_wp2_with (go_at_call 46; refine (HC.out _).mono ?_; rintro e w' ⟨rfl, m, rfl⟩)
              go_roundw
              case rel => exact ⟨j + 1, _, by omega, by go_num, rfl, find_succ HF.out E1.out HW2.out⟩
              case measure => simp [intOf]; omega
            | true =>
              have HC : Hid (∀ q, Calls Try.prog 46 #[.slice aB nb cB, .int .i64 x] (w.drewN q) fun e w' => e = .returned (.bool true) ∧ ∃ n, w' = (w.drewN q).drewN n) := fun q => by
                have := has_any x aB nb cB has (w.drewN q) hx0 hxb HB.out
                rw [hbit] at this
                exact this
              cases hct : inB fet x with
              | true =>
                have HD : Hid (∀ q, Calls Try.prog 48 #[.slice aF nf cF, .int .i64 x] (w.drewN q) fun e w' => e = .returned (.bool true) ∧ w' = w.drewN q) := fun q => by
                  have := contains_any aF nf cF x fet (w.drewN q) HFe.out
                  rw [hct] at this
                  exact this
                have HW2 : Hid (wantC sec has fet x = false) := by show _ = _; rw [HW.out, hbit, hct]; rfl
                clear hbit hct
                go_wp2_with (first | (go_at_call 46; refine (HC.out _).mono ?_; rintro e w' ⟨rfl, m, rfl⟩) | (go_at_call 48; refine (HD.out _).mono ?_; rintro e w' ⟨rfl, rfl⟩))
                go_roundw
                case rel => exact ⟨j + 1, _, by omega, by go_num, rfl, find_succ HF.out E1.out HW2.out⟩
                case measure => simp [intOf]; omega
              | false =>
                have HD : Hid (∀ q, Calls Try.prog 48 #[.slice aF nf cF, .int .i64 x] (w.drewN q) fun e w' => e = .returned (.bool false) ∧ w' = w.drewN q) := fun q => by
                  have := contains_any aF nf cF x fet (w.drewN q) HFe.out
                  rw [hct] at this
                  exact this
                have HW2 : Hid (wantC sec has fet x = true) := by show _ = _; rw [HW.out, hbit, hct]; rfl
                clear hbit hct
                go_wp2_with (first | (go_at_call 46; refine (HC.out _).mono ?_; rintro e w' ⟨rfl, m, rfl⟩) | (go_at_call 48; refine (HD.out _).mono ?_; rintro e w' ⟨rfl, rfl⟩))
                go_ret2
                exact ⟨by rw [HAct.out]; exact found_yes HF.out E1.out HW2.out, _, rfl⟩
        · go_wp2
          go_ret2
          refine ⟨?_, _, rfl⟩
          rw [HAct.out]
          refine found_no ?_
          have := HF.out
          rw [List.take_of_length_le (by rw [List.length_drop, HL.out]; omega)] at this
          exact this
    · obtain rfl : s = l := by omega
      have hd : ord.drop s = [] := by rw [List.drop_eq_nil_iff, HL.out]; omega
      have HD : Hid (ord.drop s = []) := hd
      clear hd
      have HN : Hid (∀ q, Calls Try.prog 45 #[.pointer (some ⟨pb, 0, none⟩), .int .i64 0] (w.drewN q) fun e w' => e = .returned (.int .i64 (s : Int)) ∧ w' = w.drewN q) := by
        intro q
        have := end_any pb 0 aO aT s cO k cT starts (w.drewN q) (by omega) (by omega) h6 h8 HT.out
        rw [HE.out] at this
        exact this
      cases aO with
      | none =>
        obtain rfl := hO0 rfl
        obtain rfl : s = 0 := by omega
        go_enter Try.func42, Try.ntmps42
        go_wp2_with (go_at_call 47; refine (HG.out 0).mono ?_; rintro e w' ⟨rfl, m, rfl⟩)
        go_quiet ((go_at_call 45; exact (HN.out _).mono fun _ _ h => ⟨h.1, _, h.2⟩))
        go_wp2
        refine wp_loop_rounds 1 ?_
        rw [rounds_succ]
        go_wp2
        go_ret2
        exact ⟨by rw [HAct.out, HD.out]; rfl, _, rfl⟩
      | some ad =>
        clear hO0
        rcases Decidable.em (cO = s) with rfl | hcs
        all_goals
          go_enter Try.func42, Try.ntmps42
          go_wp2_with (go_at_call 47; refine (HG.out 0).mono ?_; rintro e w' ⟨rfl, m, rfl⟩)
          go_quiet ((go_at_call 45; exact (HN.out _).mono fun _ _ h => ⟨h.1, _, h.2⟩))
          go_wp2
          refine wp_loop_rounds 1 ?_
          rw [rounds_succ]
          go_wp2
          go_ret2
          exact ⟨by rw [HAct.out, HD.out]; rfl, _, rfl⟩
  · have HAct : Hid (copyR act l ((ord.drop s).find? (wantC sec has fet)) = none) := if_neg hact
    have HG : Hid (∀ q, Calls Try.prog 47 #[.pointer (some ⟨pb, 0, none⟩)] (w.drewN q) fun e w' => e = .returned (.bool false) ∧ ∃ n, w' = (w.drewN q).drewN n) := fun q => by
      have := endGame_any pb act aO l cO (w.drewN q) h2 h6
      rw [beq_eq_false_iff_ne.2 hact] at this
      exact this
    clear hact
    go_enter Try.func42, Try.ntmps42
    go_wp2_with (go_at_call 47; refine (HG.out 0).mono ?_; rintro e w' ⟨rfl, m, rfl⟩)
    go_ret2
    exact ⟨by rw [HAct.out]; rfl, _, rfl⟩
end Go.Proofs.Qxb6602173a
