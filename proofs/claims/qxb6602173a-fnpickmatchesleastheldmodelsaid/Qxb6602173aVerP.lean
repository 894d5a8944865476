import Derived.Test.Qxb6602173aInv
namespace Go.Proofs.Qxb6602173a
set_option linter.unusedVariables false
set_option linter.unusedSimpArgs false

def atOf (P : Pk) (x : Int) : Int := P.at_.getD x.toNat 0
def startAt (P : Pk) (m : Nat) : Int := P.starts.getD m 0

/-- x changes places with the last piece of bucket m, and bucket m + 1 begins one place earlier. -/
def dropStep (P : Pk) (x : Int) (m : Nat) : Pk :=
  { swapF P (atOf P x) (startAt P (m + 1) - 1) with starts := P.starts.set (m + 1) (startAt P (m + 1) - 1) }
def verIter (P : Pk) (x : Int) (h : Nat) : Nat → Pk
  | 0 => P
  | j + 1 => dropStep (verIter P x h j) x (h + j)
def verHead (P : Pk) (x : Int) : Pk :=
  if P.st.getD x.toNat 0 = 1 then { P with st := P.st.set x.toNat 2, ver := P.ver + 1, act := P.act - 1, sec := P.sec.set x.toNat false }
  else { P with st := P.st.set x.toNat 2, ver := P.ver + 1 }
def cutF (P : Pk) : Pk := { P with ord := P.ord.take (P.ord.length - 1) }
def verTail (P : Pk) (x : Int) : Pk := cutF (swapF P (atOf P x) ((P.ord.length : Int) - 1))
def verifyF (P : Pk) (x : Int) : Pk := verTail (verIter (verHead P x) x (heldAt P.held x).toNat (P.starts.length - 1 - (heldAt P.held x).toNat)) x

/-- x is on its way: buckets above m begin within order. -/
structure Mv (P : Pk) (x : Int) (m : Nat) : Prop where
  inv : Inv P
  mem : ∃ q : Nat, P.ord[q]? = some x
  low : ∀ m' : Nat, m < m' → m' < P.starts.length → ∃ s : Int, P.starts[m']? = some s ∧ 1 ≤ s ∧ s ≤ P.ord.length

theorem Mv.place {P : Pk} {x : Int} {m : Nat} (h : Mv P x m) : ∃ q : Nat, P.ord[q]? = some x ∧ atOf P x = (q : Int) ∧ P.at_[x.toNat]? = some (q : Int) ∧ q < P.ord.length := by
  obtain ⟨q, hq⟩ := h.mem
  have := h.inv q x hq
  exact ⟨q, hq, getD_of this.2.2, this.2.2, lt_of hq⟩

theorem dropStep_fields (P : Pk) (x : Int) (m : Nat) : (dropStep P x m).st = P.st ∧ (dropStep P x m).ver = P.ver ∧ (dropStep P x m).act = P.act ∧ (dropStep P x m).sec = P.sec ∧ (dropStep P x m).que = P.que ∧ (dropStep P x m).held = P.held ∧
    (dropStep P x m).ord.length = P.ord.length ∧ (dropStep P x m).at_.length = P.at_.length ∧ (dropStep P x m).starts.length = P.starts.length := by
  simp [dropStep, swapF]

/-- One step, whole. -/
theorem dropStep_mv {P : Pk} {x : Int} {m : Nat} (h : Mv P x m) (hm : m + 1 < P.starts.length) :
    Mv (dropStep P x m) x (m + 1) ∧ (dropStep P x m).ord[(startAt P (m + 1) - 1).toNat]? = some x ∧ (dropStep P x m).starts = P.starts.set (m + 1) (startAt P (m + 1) - 1) := by
  obtain ⟨q, hq, ea, _, hql⟩ := h.place
  obtain ⟨s, hs, s1, s2⟩ := h.low (m + 1) (by omega) hm
  have es : startAt P (m + 1) = s := getD_of hs
  obtain ⟨b, hb⟩ := Int.eq_ofNat_of_zero_le (show 0 ≤ s - 1 by omega)
  obtain ⟨j, hj⟩ := some_of (show b < P.ord.length by omega)
  have e : dropStep P x m = { swapF P (q : Int) (b : Int) with starts := P.starts.set (m + 1) (s - 1) } := by unfold dropStep; rw [ea, es, hb]
  have hi := swapF_inv h.inv hq hj
  have hmv := swapF_moved hq hj
  refine ⟨⟨?_, ?_, ?_⟩, ?_, ?_⟩
  · rw [e]; exact hi
  · rw [e]; exact ⟨b, hmv⟩
  · intro m' h1 h2
    rw [e] at h2 ⊢
    simp at h2
    obtain ⟨s', hs', r⟩ := h.low m' (by omega) h2
    refine ⟨s', ?_, ?_⟩
    · show (P.starts.set (m + 1) (s - 1))[m']? = _
      rw [List.getElem?_set, if_neg (by omega)]; exact hs'
    · show _ ∧ _ ≤ ((swapF P q b).ord.length : Int)
      rw [swapF_len.1]; exact r
  · rw [es, hb, e]
    exact hmv
  · rw [e, es]

theorem verIter_mv {P : Pk} {x : Int} {h : Nat} (hmv : Mv P x h) : ∀ j, h + j < P.starts.length → Mv (verIter P x h j) x (h + j) ∧ (verIter P x h j).starts.length = P.starts.length ∧ (verIter P x h j).ord.length = P.ord.length
  | 0, _ => ⟨hmv, rfl, rfl⟩
  | j + 1, hj => by
    obtain ⟨a, b, c⟩ := verIter_mv hmv j (by omega)
    have := dropStep_mv a (by rw [b]; omega)
    have hf := dropStep_fields (verIter P x h j) x (h + j)
    exact ⟨this.1, hf.2.2.2.2.2.2.2.2.trans b, hf.2.2.2.2.2.2.1.trans c⟩
theorem verIter_fields (P : Pk) (x : Int) (h : Nat) : ∀ j, (verIter P x h j).st = P.st ∧ (verIter P x h j).ver = P.ver ∧ (verIter P x h j).act = P.act ∧ (verIter P x h j).sec = P.sec ∧ (verIter P x h j).que = P.que ∧ (verIter P x h j).held = P.held ∧ (verIter P x h j).at_.length = P.at_.length
  | 0 => ⟨rfl, rfl, rfl, rfl, rfl, rfl, rfl⟩
  | j + 1 => by
    obtain ⟨a1, a2, a3, a4, a5, a6, a7⟩ := verIter_fields P x h j
    obtain ⟨b1, b2, b3, b4, b5, b6, b7, b8, b9⟩ := dropStep_fields (verIter P x h j) x (h + j)
    exact ⟨b1.trans a1, b2.trans a2, b3.trans a3, b4.trans a4, b5.trans a5, b6.trans a6, b8.trans a7⟩
/-- The starts behind j steps. -/
theorem verIter_starts {P : Pk} {x : Int} {h : Nat} (hmv : Mv P x h) : ∀ j, h + j < P.starts.length → ∀ m, m < P.starts.length → (verIter P x h j).starts[m]? = some (if h < m ∧ m ≤ h + j then startAt P m - 1 else startAt P m)
  | 0, _, m, hm => by
    rw [if_neg (by omega)]
    obtain ⟨s, hs⟩ := some_of hm
    simp only [verIter, startAt]
    rw [hs, getD_of hs]
  | j + 1, hj, m, hm => by
    have ih := verIter_starts hmv j (by omega)
    obtain ⟨a, b, c⟩ := verIter_mv hmv j (by omega)
    obtain ⟨_, _, e⟩ := dropStep_mv a (by rw [b]; omega)
    show (dropStep (verIter P x h j) x (h + j)).starts[m]? = _
    rw [e, List.getElem?_set]
    by_cases hm2 : h + j + 1 = m
    · have e2 : startAt (verIter P x h j) (h + j + 1) = startAt P m := by
        have := ih m hm
        rw [if_neg (by omega)] at this
        rw [hm2]
        exact getD_of this
      rw [if_pos hm2, if_pos (by rw [b]; omega), if_pos (by omega), e2]
    · rw [if_neg hm2, ih m hm]
      by_cases h3 : h < m ∧ m ≤ h + j
      · rw [if_pos h3, if_pos (by omega)]
      · rw [if_neg h3, if_neg (by omega)]
end Go.Proofs.Qxb6602173a
