import Derived.Test.Qxb6602173aSwap
import Derived.Test.Qxb6602173aStarts
namespace Go.Proofs.Qxb6602173a
set_option linter.unusedVariables false
set_option linter.unusedSimpArgs false

/-- order and at are each other's inverse. -/
def Inv (P : Pk) : Prop := ∀ (q : Nat) (i : Int), P.ord[q]? = some i → 0 ≤ i ∧ i < P.at_.length ∧ P.at_[i.toNat]? = some (q : Int)

theorem getD_of {α : Type} {l : List α} {i : Nat} {x d : α} (h : l[i]? = some x) : l.getD i d = x := by rw [List.getD, h]; rfl
theorem lt_of {α : Type} {l : List α} {i : Nat} {x : α} (h : l[i]? = some x) : i < l.length := (List.getElem?_eq_some_iff.1 h).1
theorem some_of {α : Type} {l : List α} {i : Nat} (h : i < l.length) : ∃ x, l[i]? = some x := ⟨_, List.getElem?_eq_getElem h⟩

/-- A place names one piece, a piece one place. -/
theorem Inv.inj {P : Pk} (h : Inv P) {q q' : Nat} {i : Int} (h1 : P.ord[q]? = some i) (h2 : P.ord[q']? = some i) : q = q' := by
  have a := (h q i h1).2.2
  have b := (h q' i h2).2.2
  rw [a] at b
  injection b with b
  omega

section
variable {P : Pk} {a b : Nat} {i j : Int}

theorem swapF_ord (hi : P.ord[a]? = some i) (hj : P.ord[b]? = some j) (q : Nat) :
    (swapF P a b).ord[q]? = if q = b then some i else if q = a then some j else P.ord[q]? := by
  have la := lt_of hi
  have lb := lt_of hj
  simp only [swapF, Int.toNat_natCast, getD_of hi, getD_of hj]
  rw [List.getElem?_set]
  by_cases h1 : b = q
  · subst h1; simp [lb]
  · rw [if_neg h1, List.getElem?_set]
    by_cases h2 : a = q
    · subst h2; simp [la, show ¬ a = b from fun h => h1 h.symm]
    · simp [h1, h2, show ¬ q = b from fun h => h1 h.symm, show ¬ q = a from fun h => h2 h.symm]
theorem swapF_at (h : Inv P) (hi : P.ord[a]? = some i) (hj : P.ord[b]? = some j) (y : Nat) :
    (swapF P a b).at_[y]? = if y = j.toNat then some (a : Int) else if y = i.toNat then some (b : Int) else P.at_[y]? := by
  have hi' := h a i hi
  have hj' := h b j hj
  simp only [swapF, Int.toNat_natCast, getD_of hi, getD_of hj]
  rw [List.getElem?_set]
  by_cases h1 : j.toNat = y
  · subst h1; simp; omega
  · rw [if_neg h1, List.getElem?_set]
    by_cases h2 : i.toNat = y
    · subst h2
      rw [if_pos rfl, if_pos (by omega), if_neg (fun h => h1 h.symm), if_pos rfl]
    · rw [if_neg h2, if_neg (fun h => h1 h.symm), if_neg (fun h => h2 h.symm)]
theorem swapF_len : (swapF P a b).ord.length = P.ord.length ∧ (swapF P a b).at_.length = P.at_.length := by simp [swapF]

theorem swapF_inv (h : Inv P) (hi : P.ord[a]? = some i) (hj : P.ord[b]? = some j) : Inv (swapF P a b) := by
  intro q y hy
  rw [swapF_ord hi hj] at hy
  rw [swapF_len.2, swapF_at h hi hj]
  have hi' := h a i hi
  have hj' := h b j hj
  split at hy
  · rename_i e
    subst e
    cases hy
    refine ⟨hi'.1, hi'.2.1, ?_⟩
    split
    · rename_i e2
      have : i = j := by omega
      subst this
      rw [h.inj hi hj]
    · rw [if_pos rfl]
  · rename_i e1
    split at hy
    · rename_i e
      subst e
      cases hy
      exact ⟨hj'.1, hj'.2.1, if_pos rfl⟩
    · rename_i e2
      have hy' := h q y hy
      refine ⟨hy'.1, hy'.2.1, ?_⟩
      rw [if_neg, if_neg]
      · exact hy'.2.2
      · intro e
        have : y = i := by omega
        subst this
        exact e2 (h.inj hy hi)
      · intro e
        have : y = j := by omega
        subst this
        exact e1 (h.inj hy hj)
/-- The piece that stood at a stands at b. -/
theorem swapF_moved (hi : P.ord[a]? = some i) (hj : P.ord[b]? = some j) : (swapF P a b).ord[b]? = some i := by
  rw [swapF_ord hi hj, if_pos rfl]
end
end Go.Proofs.Qxb6602173a
