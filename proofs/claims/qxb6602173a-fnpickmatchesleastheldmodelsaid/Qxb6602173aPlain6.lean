import Derived.Test.Qxb6602173aPlain4
import Derived.Test.Qxb6602173aVer
import Derived.Test.Qxb6602173aVal
namespace Go.Proofs.Qxb6602173a
set_option linter.unusedVariables false
set_option linter.unusedSimpArgs false

theorem Valid.verOk {P : Pk} (v : Valid P) (hn : P.st.length ≤ 1048576) {x : Int} (h0 : 0 ≤ x) (h1 : x < P.st.length) (hst : P.st[x.toNat]? ≠ some 2) : VerOk P x := by
  have c1 : P.st.countP (· == 2) ≤ P.st.length := List.countP_le_length
  have c2 : P.st.countP (· == 1) ≤ P.st.length := List.countP_le_length
  obtain ⟨q, hq⟩ := v.lists h0 h1 hst
  have ok := v.ords q x hq
  exact ⟨h0, h1, v.sec, v.at_, v.held, by rw [← v.na]; omega, by rw [← v.na]; omega, by rw [← v.nv]; omega, by rw [← v.nv]; omega, ok.h0, ok.h1, v.mv h0 h1 hst⟩

/-- The state ahead of the cut, and where x stands in it. -/
theorem verEnd {P : Pk} {x : Int} (ok : VerOk P x) :
    ∃ P3 : Pk, verifyF P x = cutF P3 ∧ Inv P3 ∧ P3.ord[P.ord.length - 1]? = some x ∧ P3.ord.length = P.ord.length ∧ 0 < P.ord.length ∧ P3.at_.length = P.st.length ∧
      P3.starts = (verIter (verHead P x) x (heldAt P.held x).toNat (P.starts.length - 1 - (heldAt P.held x).toNat)).starts ∧
      P3.st = (verHead P x).st ∧ P3.sec = (verHead P x).sec ∧ P3.ver = (verHead P x).ver ∧ P3.act = (verHead P x).act ∧ P3.que = P.que ∧ P3.held = P.held := by
  have hs := verHead_same P x
  have h0 := ok.h0
  have h1 := ok.h1
  have hmv := verHead_mv (P := P) ok.mv
  obtain ⟨a, b, c⟩ := verIter_mv hmv (P.starts.length - 1 - (heldAt P.held x).toNat) (by rw [hs.2.2.1]; omega)
  have hf := verIter_fields (verHead P x) x (heldAt P.held x).toNat (P.starts.length - 1 - (heldAt P.held x).toNat)
  obtain ⟨q, hq, ea, eat, hql⟩ := a.place
  rw [hs.1] at c
  obtain ⟨j, hj⟩ := some_of (l := (verIter (verHead P x) x (heldAt P.held x).toNat (P.starts.length - 1 - (heldAt P.held x).toNat)).ord) (show P.ord.length - 1 < _ by omega)
  have hb : ((verIter (verHead P x) x (heldAt P.held x).toNat (P.starts.length - 1 - (heldAt P.held x).toNat)).ord.length : Int) - 1 = ((P.ord.length - 1 : Nat) : Int) := by omega
  refine ⟨swapF (verIter (verHead P x) x (heldAt P.held x).toNat (P.starts.length - 1 - (heldAt P.held x).toNat)) (q : Int) ((P.ord.length - 1 : Nat) : Int), ?_, swapF_inv a.inv hq hj, swapF_moved hq hj, ?_, by omega, ?_, rfl, hf.1, hf.2.2.2.1, hf.2.1, hf.2.2.1, ?_, ?_⟩
  · unfold verifyF verTail
    rw [ea, hb]
  · rw [swapF_len.1]; exact c
  · rw [swapF_len.2, hf.2.2.2.2.2.2, hs.2.1]; exact ok.at_
  · exact hf.2.2.2.2.1.trans hs.2.2.2.2
  · exact hf.2.2.2.2.2.1.trans hs.2.2.2.1

theorem verHead_lens {P : Pk} {x : Int} : (verHead P x).st.length = P.st.length ∧ (verHead P x).sec.length = P.sec.length := by
  unfold verHead; split <;> simp
theorem verHead_st {P : Pk} {x : Int} (hx : x.toNat < P.st.length) : (verHead P x).st[x.toNat]? = some 2 := by
  unfold verHead; split <;> simp [hx]

/-- x is no longer listed. -/
theorem ver_gone {P : Pk} {x : Int} (ok : VerOk P x) : x ∉ (verifyF P x).ord := by
  obtain ⟨P3, e, hi, hx, hl, h0, _⟩ := verEnd ok
  rw [e]
  intro hm
  obtain ⟨q, hq⟩ := List.getElem?_of_mem hm
  simp only [cutF] at hq
  rw [List.getElem?_take] at hq
  split at hq
  · have := hi.inj hq hx
    omega
  · cases hq

theorem ver_pickable {P : Pk} {nb : Nat} (v : Valid P) (hn : P.st.length ≤ 1048576) {x : Int} (h0 : 0 ≤ x) (h1 : x < P.st.length) (hst : P.st[x.toNat]? ≠ some 2) (hq1 : 1 ≤ P.que) (hq2 : P.que ≤ 1073741824) (hb : (P.st.length + 7) / 8 ≤ nb) : Pickable (verifyF P x) nb := by
  have ok := v.verOk hn h0 h1 hst
  obtain ⟨P3, e, hi, hx, hl, hl0, ha, hs, e1, e2, e3, e4, e5, e6⟩ := verEnd ok
  obtain ⟨q, hq⟩ := v.lists h0 h1 hst
  have okq := v.ords q x hq
  have hlen := verHead_lens (P := P) (x := x)
  have hol := v.ordl
  have c1 : P.st.countP (· == 2) ≤ P.st.length := List.countP_le_length
  have c2 : P.st.countP (· == 1) ≤ P.st.length := List.countP_le_length
  have nv := v.nv
  have na := v.na
  rw [e]
  have hv : (verHead P x).ver = P.ver + 1 := by unfold verHead; split <;> rfl
  have hac : 0 ≤ (verHead P x).act ∧ (verHead P x).act ≤ 16777216 := by
    unfold verHead
    split
    · rename_i hy
      have : 0 < P.st.countP (· == 1) := by
        rw [List.countP_pos_iff]
        obtain ⟨y, hy'⟩ := some_of (l := P.st) (show x.toNat < P.st.length by omega)
        rw [getD_of hy'] at hy
        exact ⟨y, List.mem_of_getElem? hy', by simp [hy]⟩
      show 0 ≤ P.act - 1 ∧ P.act - 1 ≤ _
      omega
    · show 0 ≤ P.act ∧ P.act ≤ _
      omega
  have hend : 0 ≤ endF (cutF P3).starts (cutF P3).ord.length 0 ∧ endF (cutF P3).starts (cutF P3).ord.length 0 ≤ (cutF P3).ord.length := by
    have hcl : (cutF P3).ord.length = P.ord.length - 1 := by simp [cutF, hl]
    have hks : P3.starts.length = P.starts.length := by
      rw [hs, (verIter_mv (verHead_mv (P := P) ok.mv) _ (by rw [(verHead_same P x).2.2.1]; have := ok.h0; have := ok.h1; omega)).2.1, (verHead_same P x).2.2.1]
    rw [hcl]
    unfold endF
    show 0 ≤ (if (0 : Int) + 1 < (P3.starts.length : Int) then P3.starts.getD ((0 : Int) + 1).toNat 0 else ((P.ord.length - 1 : Nat) : Int)) ∧ _
    rw [show (cutF P3).starts = P3.starts from rfl]
    split
    · rename_i hk
      have hk1 : 1 < P.starts.length := by omega
      have g := verIter_starts (verHead_mv (P := P) ok.mv) (P.starts.length - 1 - (heldAt P.held x).toNat) (by rw [(verHead_same P x).2.2.1]; have := ok.h0; have := ok.h1; omega) 1 (by rw [(verHead_same P x).2.2.1]; exact hk1)
      rw [← hs] at g
      have es : startAt (verHead P x) 1 = (lowF P.held P.ord (-1) 1 : Int) := by
        unfold startAt
        rw [(verHead_same P x).2.2.1]
        exact getD_of (v.low hk1)
      rw [es] at g
      rw [show ((0 : Int) + 1).toNat = 1 from rfl, getD_of g]
      have hle := lowF_le P.held P.ord (-1) 1
      have := okq.h0
      have := okq.h1
      by_cases hh : heldAt P.held x = 0
      · rw [if_pos (by omega)]
        have := v.lowpos hq (m := 1) (by omega)
        omega
      · rw [if_neg (by omega)]
        have := v.lowlt hq (m := 1) (by omega)
        omega
    · omega
  refine ⟨?_, ?_, ?_, ?_, ?_, ?_, ?_, hend.1, hend.2, ?_⟩
  · show P3.sec.length = P3.st.length
    rw [e1, e2, hlen.1, hlen.2]; exact v.sec
  · show 0 ≤ P3.ver
    rw [e3, hv]; omega
  · show P3.ver ≤ P3.st.length
    rw [e3, e1, hv, hlen.1]; omega
  · show 1 ≤ P3.que
    rw [e5]; exact hq1
  · show P3.que ≤ _
    rw [e5]; exact hq2
  · show 0 ≤ P3.act
    rw [e4]; exact hac.1
  · show P3.act ≤ _
    rw [e4]; exact hac.2
  · intro y hy
    have hy2 : y ∈ P3.ord := List.mem_of_mem_take hy
    have := hi.inn y hy2
    rw [ha] at this
    refine ⟨this.1, ?_, by omega⟩
    show y < P3.st.length
    rw [e1, hlen.1]; exact this.2

theorem ver_never {P : Pk} {x : Int} (ok : VerOk P x) (has fet : List Int) (queue : Int) : pickF (verifyF P x) has fet queue ≠ some x := fun h => ver_gone ok (pickF_in h)
theorem ver_st {P : Pk} {x : Int} (ok : VerOk P x) : (verifyF P x).st[x.toNat]? = some 2 := by
  obtain ⟨P3, e, _, _, _, _, _, _, e1, _⟩ := verEnd ok
  rw [e]
  show P3.st[x.toNat]? = _
  rw [e1]
  exact verHead_st (by have := ok.x0; have := ok.x1; omega)
theorem picked_st {P : Pk} {r : Option Int} {x : Int} (h : P.st[x.toNat]? = some 2) (hx : 0 ≤ x) (hr : r ≠ some x) (h0 : ∀ y, r = some y → 0 ≤ y) : (pickedF P r).st[x.toNat]? = some 2 := by
  unfold pickedF
  split
  · exact h
  · rename_i y
    have hy := h0 y rfl
    unfold takeF
    split
    · show (P.st.set y.toNat 1)[x.toNat]? = _
      rw [List.getElem?_set, if_neg]
      · exact h
      · intro e
        exact hr (by congr 1; omega)
    · exact h
theorem picked_len {P : Pk} {r : Option Int} : (pickedF P r).st.length = P.st.length := by
  unfold pickedF
  split
  · rfl
  · unfold takeF; split <;> simp
end Go.Proofs.Qxb6602173a
