import Derived.Test.Qxb6602173aStarts
import Derived.Test.Qxb6602173aEq
namespace Go.Proofs.Qxb6602173a
open Go.RowKit
set_option linter.unusedVariables false
set_option linter.unusedSimpArgs false

def StOk (P : Pk) (i : Nat) (y : Int) : Prop := (y = 0 ∨ y = 1 ∨ y = 2) ∧ (P.sec[i]? = some true → y = 1)
structure OrdOk (P : Pk) (q : Nat) (j : Int) : Prop where
  j0 : 0 ≤ j
  j1 : j < P.st.length
  st : P.st[j.toNat]? ≠ some 2
  at_ : P.at_[j.toNat]? = some (q : Int)
  h0 : 0 ≤ heldAt P.held j
  h1 : heldAt P.held j < P.starts.length
  srt : ∀ i, 0 < q → P.ord[q - 1]? = some i → heldAt P.held i ≤ heldAt P.held j

/-- The fields make a well-formed Picker. -/
structure Valid (P : Pk) : Prop where
  sec : P.sec.length = P.st.length
  held : P.held.length = P.st.length
  at_ : P.at_.length = P.st.length
  sts : ∀ i y, P.st[i]? = some y → StOk P i y
  nv : (P.st.countP (· == 2) : Int) = P.ver
  na : (P.st.countP (· == 1) : Int) = P.act
  ordl : (P.ord.length : Int) = P.st.length - P.ver
  k1 : 1 ≤ P.starts.length
  ords : ∀ q j, P.ord[q]? = some j → OrdOk P q j
  starts : P.starts = startsOf P.held P.ord (-1) P.starts.length

/-- The first loop's state: i pieces are looked at. -/
def V1 (P : Pk) (i : Nat) : Prop := ∀ m y, m < i → P.st[m]? = some y → StOk P m y
def V2 (P : Pk) (q : Nat) : Prop := ∀ m j, m < q → P.ord[m]? = some j → OrdOk P m j
def cv (P : Pk) (i : Nat) : Nat := (P.st.take i).countP (· == 2)
def ca (P : Pk) (i : Nat) : Nat := (P.st.take i).countP (· == 1)
def seenL (P : Pk) (q : Nat) : List Bool := (List.range P.st.length).map fun (i : Nat) => inB (P.ord.take q) (i : Int)

theorem V1.zero (P : Pk) : V1 P 0 := fun m _ h => absurd h (Nat.not_lt_zero m)
theorem V2.zero (P : Pk) : V2 P 0 := fun m _ h => absurd h (Nat.not_lt_zero m)
theorem V1.succ {P : Pk} {i : Nat} {y : Int} (h : V1 P i) (hy : P.st[i]? = some y) (ok : StOk P i y) : V1 P (i + 1) := by
  intro m z hm hz
  rcases Nat.lt_or_ge m i with h1 | h1
  · exact h m z h1 hz
  · obtain rfl : m = i := by omega
    rw [hy] at hz; cases hz; exact ok
theorem V2.succ {P : Pk} {q : Nat} {j : Int} (h : V2 P q) (hj : P.ord[q]? = some j) (ok : OrdOk P q j) : V2 P (q + 1) := by
  intro m z hm hz
  rcases Nat.lt_or_ge m q with h1 | h1
  · exact h m z h1 hz
  · obtain rfl : m = q := by omega
    rw [hj] at hz; cases hz; exact ok
theorem cv_le (P : Pk) (i : Nat) : cv P i ≤ i := Nat.le_trans List.countP_le_length (by rw [List.length_take]; omega)
theorem ca_le (P : Pk) (i : Nat) : ca P i ≤ i := Nat.le_trans List.countP_le_length (by rw [List.length_take]; omega)
theorem cv_succ {P : Pk} {i : Nat} {y : Int} (hy : P.st[i]? = some y) : cv P (i + 1) = cv P i + if y = 2 then 1 else 0 := by
  unfold cv; rw [take_succ_of hy]; simp [List.countP_cons]
theorem ca_succ {P : Pk} {i : Nat} {y : Int} (hy : P.st[i]? = some y) : ca P (i + 1) = ca P i + if y = 1 then 1 else 0 := by
  unfold ca; rw [take_succ_of hy]; simp [List.countP_cons]
theorem seenL_zero (P : Pk) : bools (seenL P 0) = List.replicate P.st.length (.bool false) := by
  apply List.ext_getElem (by simp [bools, seenL])
  intro i h1 h2
  simp [bools, seenL, inB]
theorem seenL_get {P : Pk} {q i : Nat} (h : i < P.st.length) : (seenL P q)[i]? = some (inB (P.ord.take q) (i : Int)) := by simp [seenL, h]
theorem seenL_succ {P : Pk} {q : Nat} {j : Int} (hj : P.ord[q]? = some j) (h0 : 0 ≤ j) : seenL P (q + 1) = (seenL P q).set j.toNat true := by
  apply List.ext_getElem?
  intro i
  rw [List.getElem?_set]
  by_cases hi : i < P.st.length
  · rw [seenL_get hi, seenL_get hi]
    have hl : (seenL P q).length = P.st.length := by simp [seenL]
    rw [hl, take_succ_of hj]
    by_cases e : j.toNat = i
    · rw [if_pos e, if_pos (by omega)]
      congr 1
      rw [inB_iff, List.mem_append]
      right; simp; omega
    · rw [if_neg e]
      congr 1
      rw [Bool.eq_iff_iff, inB_iff, inB_iff, List.mem_append]
      simp; intro h; omega
  · have hl : ∀ q, (seenL P q).length = P.st.length := fun q => by simp [seenL]
    rw [List.getElem?_eq_none (by rw [hl]; omega)]
    split
    · rw [if_neg (by rw [hl]; omega)]
    · rw [List.getElem?_eq_none (by rw [hl]; omega)]
end Go.Proofs.Qxb6602173a
