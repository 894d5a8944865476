import Derived.Test.Qxb6602173aVerP
import Derived.Test.Qxb6602173aValid
namespace Go.Proofs.Qxb6602173a
set_option linter.unusedVariables false
set_option linter.unusedSimpArgs false

/-! What a well-formed Picker is. -/
theorem Valid.inv {P : Pk} (v : Valid P) : Inv P := by
  intro q i hi
  have ok := v.ords q i hi
  exact ⟨ok.j0, by rw [v.at_]; exact ok.j1, ok.at_⟩

theorem nodup_len : ∀ (l m : List Nat), l.Nodup → (∀ x ∈ l, x ∈ m) → l.length ≤ m.length
  | [], _, _, _ => Nat.zero_le _
  | x :: t, m, hn, hs => by
    rw [List.nodup_cons] at hn
    have hx : x ∈ m := hs x (by simp)
    have := nodup_len t (m.erase x) hn.2 (fun y hy => by
      have hy2 : y ∈ m := hs y (by simp [hy])
      have hne : y ≠ x := fun e => hn.1 (e ▸ hy)
      exact (List.mem_erase_of_ne hne).2 hy2)
    rw [List.length_erase_of_mem hx] at this
    have h0 : 0 < m.length := List.length_pos_of_mem hx
    simp
    omega

theorem count_range (l : List Int) (p : Int → Bool) : ((List.range l.length).filter fun i => p (l.getD i 0)).length = l.countP p := by
  rw [← List.countP_eq_length_filter]
  have e : l = (List.range l.length).map fun i => l.getD i 0 := by
    apply List.ext_getElem (by simp)
    intro i h1 h2
    simp [h1]
  conv => rhs; rw [e]
  rw [List.countP_map]
  rfl

/-- order lists every piece that is not verified. -/
theorem Valid.lists {P : Pk} (v : Valid P) {x : Int} (h0 : 0 ≤ x) (h1 : x < P.st.length) (hst : P.st[x.toNat]? ≠ some 2) : ∃ q : Nat, P.ord[q]? = some x := by
  apply Classical.byContradiction
  intro hno
  have hN : (P.ord.map Int.toNat).Nodup := by
    rw [List.nodup_iff_pairwise_ne, List.pairwise_iff_getElem]
    intro i j hi hj hij e
    simp at hi hj e
    have a := v.inv i _ (List.getElem?_eq_getElem hi)
    have b := v.inv j _ (List.getElem?_eq_getElem hj)
    have e2 : P.ord[i] = P.ord[j] := by omega
    have := v.inv.inj (List.getElem?_eq_getElem hi) (e2 ▸ List.getElem?_eq_getElem hj)
    omega
  have hx : x.toNat ∉ P.ord.map Int.toNat := by
    intro hm
    rw [List.mem_map] at hm
    obtain ⟨y, hy, e⟩ := hm
    obtain ⟨q, hq⟩ := List.getElem?_of_mem hy
    have := v.inv q y hq
    have : y = x := by omega
    subst this
    exact hno ⟨q, hq⟩
  have key := nodup_len (x.toNat :: P.ord.map Int.toNat) ((List.range P.st.length).filter fun i => (P.st.getD i 0 != 2)) (List.nodup_cons.2 ⟨hx, hN⟩) (by
    have good : ∀ i : Nat, i < P.st.length → P.st[i]? ≠ some 2 → i ∈ (List.range P.st.length).filter fun i => (P.st.getD i 0 != 2) := by
      intro i hi hne
      rw [List.mem_filter, List.mem_range]
      refine ⟨hi, ?_⟩
      rw [bne_iff_ne]
      intro e
      apply hne
      rw [List.getElem?_eq_getElem hi]
      rw [List.getD, List.getElem?_eq_getElem hi] at e
      simpa using e
    intro y hy
    rw [List.mem_cons] at hy
    rcases hy with rfl | hy
    · exact good _ (by omega) hst
    · rw [List.mem_map] at hy
      obtain ⟨z, hz, rfl⟩ := hy
      obtain ⟨q, hq⟩ := List.getElem?_of_mem hz
      have ok := v.ords q z hq
      have := ok.j0
      have := ok.j1
      exact good _ (by omega) ok.st)
  rw [count_range P.st (fun y => y != 2)] at key
  have hc := List.length_eq_countP_add_countP (fun y : Int => y == 2) (l := P.st)
  have he : P.st.countP (fun y => y != 2) = P.st.countP (fun a => !(a == 2)) := rfl
  have h2 := v.nv
  have h3 := v.ordl
  rw [List.length_cons, List.length_map] at key
  have e4 : P.st.countP (fun y => y != 2) = P.st.countP (fun a => decide ¬(a == 2) = true) := by
    congr 1
    funext a
    by_cases h : a = 2 <;> simp [h]
  omega

theorem Valid.lowpos {P : Pk} (v : Valid P) {x : Int} {q : Nat} (hq : P.ord[q]? = some x) {m : Nat} (hm : heldAt P.held x < (m : Int)) : 1 ≤ lowF P.held P.ord (-1) m := by
  unfold lowF
  have hx := List.mem_of_getElem? hq
  have ok := v.ords q x hq
  have := ok.j0
  have : 0 < P.ord.countP fun j => j != -1 && decide (heldAt P.held j < (m : Int)) := by
    rw [List.countP_pos_iff]
    refine ⟨x, hx, ?_⟩
    have e : x != -1 := by rw [bne_iff_ne]; omega
    simp [hm]
    omega
  omega
theorem Valid.lowlt {P : Pk} (v : Valid P) {x : Int} {q : Nat} (hq : P.ord[q]? = some x) {m : Nat} (hm : (m : Int) ≤ heldAt P.held x) : lowF P.held P.ord (-1) m + 1 ≤ P.ord.length := by
  unfold lowF
  have hx := List.mem_of_getElem? hq
  have h1 := List.length_eq_countP_add_countP (fun j => j != -1 && decide (heldAt P.held j < (m : Int))) (l := P.ord)
  have : 0 < P.ord.countP fun a => decide ¬((a != -1 && decide (heldAt P.held a < (m : Int))) = true) := by
    rw [List.countP_pos_iff]
    exact ⟨x, hx, by simp; omega⟩
  omega

theorem Valid.mv {P : Pk} (v : Valid P) {x : Int} (h0 : 0 ≤ x) (h1 : x < P.st.length) (hst : P.st[x.toNat]? ≠ some 2) : Mv P x (heldAt P.held x).toNat := by
  obtain ⟨q, hq⟩ := v.lists h0 h1 hst
  have ok := v.ords q x hq
  refine ⟨v.inv, ⟨q, hq⟩, fun m hm hk => ?_⟩
  refine ⟨(lowF P.held P.ord (-1) m : Int), ?_, ?_, ?_⟩
  · conv => lhs; rw [v.starts]
    exact startsOf_get _ _ _ _ _ hk
  · have := v.lowpos hq (m := m) (by have := ok.h0; omega)
    omega
  · have := lowF_le P.held P.ord (-1) m
    omega
end Go.Proofs.Qxb6602173a
