import Derived.Test.Qxb6602173aPlain5
import Derived.Test.Qxb6602173aPlain8
import Derived.Test.Qxb6602173aApp
namespace Go.Proofs.Qxb6602173a
set_option linter.unusedVariables false
set_option linter.unusedSimpArgs false

/-- Gain of a piece not verified: where it stood, where it goes, its old count. -/
structure Gf (P : Pk) (i : Int) (q b h : Nat) (j : Int) : Prop where
  v : Valid P
  i0 : 0 ≤ i
  i1 : i < P.st.length
  st : P.st[i.toNat]? ≠ some 2
  hq : P.ord[q]? = some i
  hh : heldAt P.held i = (h : Int)
  hk : h < P.starts.length
  hb : lowF P.held P.ord (-1) (h + 1) = b + 1
  hj : P.ord[b]? = some j
  qb : q ≤ b
  e : gainF P i = { swapF P q b with held := P.held.set i.toNat ((h : Int) + 1), starts := (if h + 1 = P.starts.length then P.starts ++ [(P.ord.length : Int)] else P.starts).set (h + 1) (b : Int) }

theorem Gf.of {P : Pk} (v : Valid P) {i : Int} (h0 : 0 ≤ i) (h1 : i < P.st.length) (hst : P.st[i.toNat]? ≠ some 2) : ∃ (q b h : Nat) (j : Int), Gf P i q b h j := by
  obtain ⟨q, b, h, j, hq, hh, hk, hb, hj, qb, _, e⟩ := v.gain_shape h0 h1 hst
  exact ⟨q, b, h, j, v, h0, h1, hst, hq, hh, hk, hb, hj, qb, e⟩

def kNew (P : Pk) (h : Nat) : Nat := if h + 1 = P.starts.length then P.starts.length + 1 else P.starts.length
def posG (P : Pk) (h m : Nat) : Nat := if m = h + 1 then lowF P.held P.ord (-1) m - 1 else lowF P.held P.ord (-1) m

section
variable {P : Pk} {i : Int} {q b h : Nat} {j : Int}
theorem Gf.get (f : Gf P i q b h j) (p : Nat) : (gainF P i).ord[p]? = if p = b then some i else if p = q then some j else P.ord[p]? := by
  rw [f.e]
  exact swapF_ord f.hq f.hj p
theorem Gf.len (f : Gf P i q b h j) : (gainF P i).ord.length = P.ord.length := by
  rw [f.e]
  exact swapF_len.1
theorem Gf.place (f : Gf P i q b h j) : lowF P.held P.ord (-1) h ≤ q := by
  have : ¬ q < lowF P.held P.ord (-1) h := by
    rw [← f.v.below f.hq h, f.hh]; omega
  omega
theorem Gf.below (f : Gf P i q b h j) {m p : Nat} (hm : m < h) (hp : p < lowF P.held P.ord (-1) (m + 1)) : (gainF P i).ord[p]? = P.ord[p]? := by
  have h1 := lowF_mono' P.held P.ord (m + 1) (h - (m + 1))
  rw [show m + 1 + (h - (m + 1)) = h by omega] at h1
  have := f.place
  have := f.qb
  rw [f.get, if_neg (by omega), if_neg (by omega)]
theorem Gf.above (f : Gf P i q b h j) {m p : Nat} (hm : h < m) (hp : lowF P.held P.ord (-1) m ≤ p) : (gainF P i).ord[p]? = P.ord[p]? := by
  have h1 := lowF_mono' P.held P.ord (h + 1) (m - (h + 1))
  rw [show h + 1 + (m - (h + 1)) = m by omega, f.hb] at h1
  have := f.qb
  rw [f.get, if_neg (by omega), if_neg (by omega)]
theorem Gf.own (f : Gf P i q b h j) {p : Nat} {y : Int} (hp : p < b) (hy : P.ord[p]? = some y) : (gainF P i).ord[p]? = if y = i then some j else some y := by
  rw [f.get, if_neg (by omega)]
  by_cases e : y = i
  · subst e
    rw [if_pos (f.v.inv.inj hy f.hq), if_pos rfl]
  · rw [if_neg e, if_neg, hy]
    intro e2
    subst e2
    rw [f.hq] at hy
    exact e (Option.some.inj hy).symm
theorem Gf.top (f : Gf P i q b h j) : lowF P.held P.ord (-1) (P.starts.length + 1) = P.ord.length := by
  have a := lowF_mono P.held P.ord P.starts.length
  have c := lowF_le P.held P.ord (-1) (P.starts.length + 1)
  rw [f.v.top] at a
  omega
theorem Gf.whole (f : Gf P i q b h j) : (gainF P i).held = P.held.set i.toNat ((h : Int) + 1) ∧ (gainF P i).at_ = fillTo P.at_ (gainF P i).ord (gainF P i).ord.length ∧ (gainF P i).starts = startsOf (P.held.set i.toNat ((h : Int) + 1)) P.ord (-1) (kNew P h) := by
  have v2 := f.v.gain f.i0 f.i1 f.st
  refine ⟨by rw [f.e], ?_, ?_⟩
  · symm
    have kp : Keeps P (swapF P q b) := (Keeps.refl P).swap f.v.inv f.hq f.hj
    have ho : (gainF P i).ord = (swapF P q b).ord := by rw [f.e]
    have ha : (gainF P i).at_ = (swapF P q b).at_ := by rw [f.e]
    refine fill_all ?_ (fun p y hy => (v2.inv p y hy).2.2) (fun idx hn => ?_)
    · rw [ha, swapF_len.2]
    · rw [ha]
      refine kp.2 idx fun y hy e => ?_
      have hy2 : y ∈ (gainF P i).ord := by rw [ho]; exact kp.1.mem_iff.2 hy
      obtain ⟨p, hp⟩ := List.getElem?_of_mem hy2
      exact hn p y hp e
  · have := v2.starts
    have hl : (gainF P i).starts.length = kNew P h := by
      rw [f.e]
      show (List.set _ _ _).length = _
      rw [List.length_set]
      unfold kNew
      split <;> simp
    have hh : (gainF P i).held = P.held.set i.toNat ((h : Int) + 1) := by rw [f.e]
    have ho : (gainF P i).ord = (swapF P q b).ord := by rw [f.e]
    rw [this, hl, hh, ho]
    apply List.ext_getElem?
    intro m
    by_cases hm : m < kNew P h
    · rw [startsOf_get _ _ _ _ _ hm, startsOf_get _ _ _ _ _ hm, lowF_perm (swapF_perm f.hq f.hj)]
    · rw [List.getElem?_eq_none (by rw [startsOf_length]; omega), List.getElem?_eq_none (by rw [startsOf_length]; omega)]
theorem Gf.inF (f : Gf P i q b h j) {y : Int} (hy : y ∈ (gainF P i).ord) : 0 ≤ y ∧ y < P.st.length := by
  have : y ∈ P.ord := by
    have ho : (gainF P i).ord = (swapF P q b).ord := by rw [f.e]
    rw [ho] at hy
    exact (swapF_perm f.hq f.hj).mem_iff.1 hy
  obtain ⟨p, hp⟩ := List.getElem?_of_mem this
  exact ⟨(f.v.ords p y hp).j0, (f.v.ords p y hp).j1⟩
theorem Gf.startsIn (f : Gf P i q b h j) : ∀ y ∈ P.ord, y ≠ -1 → 0 ≤ y ∧ y < P.held.length ∧ 0 ≤ heldAt (P.held.set i.toNat ((h : Int) + 1)) y ∧ heldAt (P.held.set i.toNat ((h : Int) + 1)) y < kNew P h := by
  intro y hy _
  obtain ⟨p, hp⟩ := List.getElem?_of_mem hy
  have ok := f.v.ords p y hp
  have hil : i.toNat < P.held.length := by rw [f.v.held]; have := f.i0; have := f.i1; omega
  have h0 := ok.h0
  have h1 := ok.h1
  have hk := f.hk
  rw [heldAt_set _ _ _ _ hil f.i0 ok.j0]
  refine ⟨ok.j0, by rw [f.v.held]; exact ok.j1, ?_, ?_⟩
  · split <;> omega
  · unfold kNew
    split <;> split <;> omega
end
theorem posG_ne {P : Pk} {h m : Nat} (hm : m ≠ h + 1) : posG P h m = lowF P.held P.ord (-1) m := if_neg hm
theorem posG_eq {P : Pk} {h m : Nat} (hm : m = h + 1) : posG P h m = lowF P.held P.ord (-1) m - 1 := if_pos hm
theorem gain_same {P : Pk} {i : Int} (hst : P.st[i.toNat]? = some 2) : gainF P i = P := by
  unfold gainF
  rw [if_pos (getD_of hst)]
end Go.Proofs.Qxb6602173a
