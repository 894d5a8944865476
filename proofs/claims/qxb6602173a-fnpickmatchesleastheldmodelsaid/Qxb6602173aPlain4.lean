import Derived.Test.Qxb6602173aPick3
import Derived.Test.Qxb6602173aGlue
namespace Go.Proofs.Qxb6602173a
set_option linter.unusedVariables false
set_option linter.unusedSimpArgs false

theorem Valid.low {P : Pk} (v : Valid P) {m : Nat} (hm : m < P.starts.length) : P.starts[m]? = some (lowF P.held P.ord (-1) m : Int) := by
  rw [v.starts]
  exact startsOf_get _ _ _ _ _ hm

theorem Valid.end0 {P : Pk} (v : Valid P) : 0 ≤ endF P.starts P.ord.length 0 ∧ endF P.starts P.ord.length 0 ≤ P.ord.length := by
  unfold endF
  split
  · rename_i h
    have h1 : 1 < P.starts.length := by omega
    have e := v.low h1
    simp only [show ((0 : Int) + 1).toNat = 1 from rfl, List.getD, e, Option.getD_some]
    have := lowF_le P.held P.ord (-1) 1
    omega
  · omega

theorem Valid.pickable {P : Pk} {nb : Nat} (v : Valid P) (hn : P.st.length ≤ 1048576) (hq1 : 1 ≤ P.que) (hq2 : P.que ≤ 1073741824) (hb : (P.st.length + 7) / 8 ≤ nb) : Pickable P nb := by
  have h1 : P.st.countP (· == 2) ≤ P.st.length := List.countP_le_length
  have h2 : P.st.countP (· == 1) ≤ P.st.length := List.countP_le_length
  refine ⟨v.sec, by rw [← v.nv]; omega, by rw [← v.nv]; omega, hq1, hq2, by rw [← v.na]; omega, by rw [← v.na]; omega, v.end0.1, v.end0.2, fun x hx => ?_⟩
  obtain ⟨q, hq⟩ := List.getElem?_of_mem hx
  have ok := v.ords q x hq
  have := ok.j0
  have := ok.j1
  exact ⟨ok.j0, ok.j1, by omega⟩

theorem takeF_pickable {P : Pk} {nb : Nat} (h : Pickable P nb) (ha : P.act ≤ 1048576) (x : Int) : Pickable (takeF P x) nb := by
  unfold takeF
  split
  · exact ⟨by simpa using h.sec, h.v0, by simpa using h.v1, h.q1, h.q2, by have := h.a0; simp; omega, by simp; omega, h.e0, h.e1, by simpa using h.inn⟩
  · exact ⟨by simpa using h.sec, h.v0, h.v1, h.q1, h.q2, h.a0, h.a1, h.e0, h.e1, h.inn⟩

theorem takeF_st {P : Pk} {x : Int} (hx : x.toNat < P.st.length) : (takeF P x).st.getD x.toNat 0 ≠ 0 := by
  unfold takeF
  split
  · simp [List.getD, hx]
  · assumption

theorem pickF_in {P : Pk} {has fet : List Int} {queue x : Int} (h : pickF P has fet queue = some x) : x ∈ P.ord := by
  unfold pickF at h
  split at h
  · cases h
  · unfold searchF at h
    split at h
    · rename_i y hy
      cases h
      exact find_in hy
    · exact find_in (copyR_some h)

theorem never_twice {P : Pk} {nb : Nat} {has fet fet2 : List Int} {queue x : Int} (hP : Pickable P nb) (h : pickF P has fet queue = some x) (h2 : x ∈ fet2) : pickF (takeF P x) has fet2 queue ≠ some x := by
  have hx := hP.inn x (pickF_in h)
  have hst := takeF_st (P := P) (x := x) (by omega)
  intro hp
  unfold pickF at hp
  split at hp
  · cases hp
  · unfold searchF at hp
    split at hp
    · rename_i y hy
      cases hp
      have := List.find?_some hy
      unfold wantF at this
      rw [Bool.and_eq_true, beq_iff_eq] at this
      exact hst this.1
    · have := List.find?_some (copyR_some hp)
      unfold wantC at this
      simp only [Bool.and_eq_true, Bool.not_eq_true'] at this
      have h3 := this.2
      rw [(inB_iff fet2 x).2 h2] at h3
      cases h3
end Go.Proofs.Qxb6602173a
