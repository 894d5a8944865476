import Derived.Test.Qxb6602173aBkt
import Derived.Test.Qxb6602173aPlain6
namespace Go.Proofs.Qxb6602173a
set_option linter.unusedVariables false
set_option linter.unusedSimpArgs false

/-! The road of one piece through order, on plain lists. -/
def swp (l : List Int) (a b : Nat) : List Int := (l.set a (l.getD b 0)).set b (l.getD a 0)
def fromAt (a0 : Nat) (b : Nat → Nat) (j : Nat) : Nat := if j = 0 then a0 else b (j - 1)
def tr (l : List Int) (a0 : Nat) (b : Nat → Nat) : Nat → List Int
  | 0 => l
  | j + 1 => swp (tr l a0 b j) (fromAt a0 b j) (b j)

theorem swp_len (l : List Int) (a b : Nat) : (swp l a b).length = l.length := by simp [swp]
theorem tr_len (l : List Int) (a0 : Nat) (b : Nat → Nat) : ∀ j, (tr l a0 b j).length = l.length
  | 0 => rfl
  | j + 1 => by simp only [tr]; rw [swp_len, tr_len l a0 b j]
theorem swp_get {l : List Int} {a b : Nat} {i j : Int} (hi : l[a]? = some i) (hj : l[b]? = some j) (q : Nat) : (swp l a b)[q]? = if q = b then some i else if q = a then some j else l[q]? := by
  have la := lt_of hi
  have lb := lt_of hj
  simp only [swp, getD_of hi, getD_of hj]
  rw [List.getElem?_set]
  by_cases h1 : b = q
  · subst h1; simp [lb]
  · rw [if_neg h1, List.getElem?_set]
    by_cases h2 : a = q
    · subst h2; simp [la, show ¬ a = b from fun h => h1 h.symm]
    · simp [h1, h2, show ¬ q = b from fun h => h1 h.symm, show ¬ q = a from fun h => h2 h.symm]

structure Way (l : List Int) (a0 : Nat) (b : Nat → Nat) (J : Nat) : Prop where
  h0 : a0 ≤ b 0
  hm : ∀ j, j + 1 < J → b j ≤ b (j + 1)
  hl : ∀ j, j < J → b j < l.length

theorem from_le {l : List Int} {a0 : Nat} {b : Nat → Nat} {J : Nat} (W : Way l a0 b J) (j : Nat) (hj : j < J) : fromAt a0 b j ≤ b j := by
  unfold fromAt
  split
  · rename_i e; subst e; exact W.h0
  · have := W.hm (j - 1) (by omega)
    rw [show j - 1 + 1 = j by omega] at this
    exact this
/-- What lies beyond has not been touched. -/
theorem tr_above {l : List Int} {a0 : Nat} {b : Nat → Nat} {J : Nat} (W : Way l a0 b J) : ∀ j, j ≤ J → ∀ p, (∀ i, i < j → b i < p) → a0 < p ∨ j = 0 → (tr l a0 b j)[p]? = l[p]?
  | 0, _, p, _, _ => rfl
  | j + 1, hj, p, hp, hq => by
    have ha : a0 < p := by
      rcases hq with h | h
      · exact h
      · omega
    have hle := from_le W j (by omega)
    have hbj := hp j (by omega)
    obtain ⟨i, hi⟩ := some_of (l := tr l a0 b j) (i := fromAt a0 b j) (by rw [tr_len]; have := W.hl j (by omega); omega)
    obtain ⟨y, hy⟩ := some_of (l := tr l a0 b j) (i := b j) (by rw [tr_len]; exact W.hl j (by omega))
    show (swp (tr l a0 b j) (fromAt a0 b j) (b j))[p]? = _
    rw [swp_get hi hy, if_neg (by omega), if_neg (by omega)]
    exact tr_above W j (by omega) p (fun i hi => hp i (by omega)) (.inl ha)
theorem b_mono {l : List Int} {a0 : Nat} {b : Nat → Nat} {J : Nat} (W : Way l a0 b J) (i : Nat) : ∀ d, i + d < J → b i ≤ b (i + d)
  | 0, _ => Nat.le_refl _
  | d + 1, h => Nat.le_trans (b_mono W i d (by omega)) (W.hm (i + d) (by omega))
/-- At the head of its run stands the run's last. -/
theorem tr_head {l : List Int} {a0 : Nat} {b : Nat → Nat} {J : Nat} (W : Way l a0 b J) (j : Nat) (hj : j < J) (hlt : fromAt a0 b j < b j) : (tr l a0 b (j + 1))[fromAt a0 b j]? = l[b j]? := by
  obtain ⟨i, hi⟩ := some_of (l := tr l a0 b j) (i := fromAt a0 b j) (by rw [tr_len]; have := W.hl j hj; omega)
  obtain ⟨y, hy⟩ := some_of (l := tr l a0 b j) (i := b j) (by rw [tr_len]; exact W.hl j hj)
  show (swp (tr l a0 b j) (fromAt a0 b j) (b j))[_]? = _
  rw [swp_get hi hy, if_neg (by omega), if_pos rfl, ← hy]
  by_cases e : j = 0
  · subst e; rfl
  · refine tr_above W j (by omega) (b j) (fun i hi => ?_) ?_
    · have h1 : fromAt a0 b j = b (j - 1) := if_neg e
      have := b_mono W i (j - 1 - i) (by omega)
      rw [show i + (j - 1 - i) = j - 1 by omega] at this
      omega
    · left
      have h1 : fromAt a0 b j = b (j - 1) := if_neg e
      have := b_mono W 0 (j - 1) (by omega)
      rw [Nat.zero_add] at this
      have := W.h0
      omega
/-- Within its run nothing else turns. -/
theorem tr_mid {l : List Int} {a0 : Nat} {b : Nat → Nat} {J : Nat} (W : Way l a0 b J) (j : Nat) (hj : j < J) (p : Nat) (h1 : j ≠ 0 → b (j - 1) < p) (h2 : p < b j) (h3 : p ≠ fromAt a0 b j) : (tr l a0 b (j + 1))[p]? = l[p]? := by
  obtain ⟨i, hi⟩ := some_of (l := tr l a0 b j) (i := fromAt a0 b j) (by rw [tr_len]; have := W.hl j hj; have := from_le W j hj; omega)
  obtain ⟨y, hy⟩ := some_of (l := tr l a0 b j) (i := b j) (by rw [tr_len]; exact W.hl j hj)
  show (swp (tr l a0 b j) (fromAt a0 b j) (b j))[_]? = _
  rw [swp_get hi hy, if_neg (by omega), if_neg h3]
  by_cases e : j = 0
  · subst e; rfl
  · have hb := h1 e
    refine tr_above W j (by omega) p (fun i hi => ?_) ?_
    · have := b_mono W i (j - 1 - i) (by omega)
      rw [show i + (j - 1 - i) = j - 1 by omega] at this
      omega
    · left
      have := b_mono W 0 (j - 1) (by omega)
      rw [Nat.zero_add] at this
      have := W.h0
      omega
/-- What lies below the last swap stays. -/
theorem tr_stays {l : List Int} {a0 : Nat} {b : Nat → Nat} {J : Nat} (W : Way l a0 b J) (j : Nat) : ∀ d, j + 1 + d ≤ J → ∀ p, p < b j → (tr l a0 b (j + 1 + d))[p]? = (tr l a0 b (j + 1))[p]?
  | 0, _, p, _ => rfl
  | d + 1, h, p, hp => by
    have ih := tr_stays W j d (by omega) p hp
    have hb1 := b_mono W j d (by omega)
    have hb2 := b_mono W j (d + 1) (by omega)
    obtain ⟨i, hi⟩ := some_of (l := tr l a0 b (j + 1 + d)) (i := fromAt a0 b (j + 1 + d)) (by rw [tr_len]; have := W.hl (j + 1 + d) (by omega); have := from_le W (j + 1 + d) (by omega); omega)
    obtain ⟨y, hy⟩ := some_of (l := tr l a0 b (j + 1 + d)) (i := b (j + 1 + d)) (by rw [tr_len]; exact W.hl _ (by omega))
    show (swp (tr l a0 b (j + 1 + d)) (fromAt a0 b (j + 1 + d)) (b (j + 1 + d)))[p]? = _
    rw [show j + (d + 1) = j + 1 + d by omega] at hb2
    have hf : fromAt a0 b (j + 1 + d) = b (j + d) := by unfold fromAt; rw [if_neg (by omega), show j + 1 + d - 1 = j + d by omega]
    rw [swp_get hi hy, if_neg (by omega), if_neg (by rw [hf]; omega)]
    exact ih

/-! Verify's road is such a road. -/
theorem swapF_swp (P : Pk) (a b : Nat) : (swapF P a b).ord = swp P.ord a b := by simp [swapF, swp]

/-- Where bucket (h + j) ends, less one. -/
def bAt (P : Pk) (h : Nat) (j : Nat) : Nat := lowF P.held P.ord (-1) (h + j + 1) - 1

structure Vf (P : Pk) (x : Int) (q h : Nat) : Prop where
  v : Valid P
  hq : P.ord[q]? = some x
  hh : heldAt P.held x = (h : Int)
  hk : h < P.starts.length

theorem Vf.pos {P : Pk} {x : Int} {q h : Nat} (f : Vf P x q h) (j : Nat) : 1 ≤ lowF P.held P.ord (-1) (h + j + 1) := f.v.lowpos f.hq (by rw [f.hh]; omega)
theorem Vf.way {P : Pk} {x : Int} {q h : Nat} (f : Vf P x q h) : Way P.ord q (bAt P h) (P.starts.length - h) := by
  refine ⟨?_, fun j hj => ?_, fun j hj => ?_⟩
  · have := (f.v.below f.hq (h + 1)).1 (by rw [f.hh]; omega)
    unfold bAt
    rw [show h + 0 + 1 = h + 1 from rfl]
    omega
  · have := lowF_mono P.held P.ord (h + j + 1)
    unfold bAt
    rw [show h + (j + 1) + 1 = h + j + 1 + 1 by omega]
    omega
  · have := lowF_le P.held P.ord (-1) (h + j + 1)
    have := f.pos j
    unfold bAt
    omega
/-- Behind j steps order is the road's list, and x stands where it should. -/
theorem Vf.iter {P : Pk} {x : Int} {q h : Nat} (f : Vf P x q h) (hmv : Mv P x h) : ∀ j, h + j < P.starts.length → (verIter (verHead P x) x h j).ord = tr P.ord q (bAt P h) j ∧ (tr P.ord q (bAt P h) j)[fromAt q (bAt P h) j]? = some x
  | 0, _ => ⟨(verHead_same P x).1, f.hq⟩
  | j + 1, hj => by
    obtain ⟨e, hx⟩ := Vf.iter f hmv j (by omega)
    have hs := verHead_same P x
    obtain ⟨a, b, c⟩ := verIter_mv (verHead_mv hmv) j (by rw [hs.2.2.1]; omega)
    have st := verIter_starts (verHead_mv hmv) j (by rw [hs.2.2.1]; omega) (h + j + 1) (by rw [hs.2.2.1]; omega)
    rw [if_neg (by omega)] at st
    have es : startAt (verHead P x) (h + j + 1) = (lowF P.held P.ord (-1) (h + j + 1) : Int) := by
      unfold startAt
      rw [hs.2.2.1]
      refine getD_of ?_
      conv => lhs; rw [f.v.starts]
      exact startsOf_get _ _ _ _ _ (by omega)
    rw [es] at st
    rw [← e] at hx
    have hat := getD_of (d := 0) (a.inv _ x hx).2.2
    have hb : (lowF P.held P.ord (-1) (h + j + 1) : Int) - 1 = (bAt P h j : Int) := by
      have := f.pos j
      unfold bAt
      omega
    have e2 : (verIter (verHead P x) x h (j + 1)).ord = tr P.ord q (bAt P h) (j + 1) := by
      show (dropStep (verIter (verHead P x) x h j) x (h + j)).ord = swp (tr P.ord q (bAt P h) j) (fromAt q (bAt P h) j) (bAt P h j)
      unfold dropStep
      rw [show atOf (verIter (verHead P x) x h j) x = (fromAt q (bAt P h) j : Int) from hat, show startAt (verIter (verHead P x) x h j) (h + j + 1) = _ from getD_of st, hb]
      show (swapF (verIter (verHead P x) x h j) _ _).ord = _
      rw [swapF_swp, e]
    refine ⟨e2, ?_⟩
    rw [e] at hx
    obtain ⟨y, hy⟩ := some_of (l := tr P.ord q (bAt P h) j) (i := bAt P h j) (by rw [tr_len]; exact f.way.hl j (by omega))
    show (swp (tr P.ord q (bAt P h) j) (fromAt q (bAt P h) j) (bAt P h j))[fromAt q (bAt P h) (j + 1)]? = _
    rw [show fromAt q (bAt P h) (j + 1) = bAt P h j from by unfold fromAt; rw [if_neg (by omega), Nat.add_sub_cancel], swp_get hx hy, if_pos rfl]

/-- Verify's new order. -/
theorem Vf.ord {P : Pk} {x : Int} {q h : Nat} (f : Vf P x q h) (hmv : Mv P x h) : (verifyF P x).ord = (tr P.ord q (bAt P h) (P.starts.length - h)).take (P.ord.length - 1) := by
  obtain ⟨e, hx⟩ := f.iter hmv (P.starts.length - 1 - h) (by have := f.hk; omega)
  have hs := verHead_same P x
  obtain ⟨a, b, c⟩ := verIter_mv (verHead_mv hmv) (P.starts.length - 1 - h) (by rw [hs.2.2.1]; have := f.hk; omega)
  rw [hs.1] at c
  have hk := f.hk
  have hbl : bAt P h (P.starts.length - 1 - h) = P.ord.length - 1 := by
    unfold bAt
    rw [show h + (P.starts.length - 1 - h) + 1 = P.starts.length by omega, f.v.top]
  have hl0 := lt_of f.hq
  unfold verifyF verTail cutF
  rw [f.hh, Int.toNat_natCast]
  rw [← e] at hx
  have hat : atOf (verIter (verHead P x) x h (P.starts.length - 1 - h)) x = (fromAt q (bAt P h) (P.starts.length - 1 - h) : Int) := getD_of (a.inv _ x hx).2.2
  have hll : ((verIter (verHead P x) x h (P.starts.length - 1 - h)).ord.length : Int) - 1 = ((P.ord.length - 1 : Nat) : Int) := by rw [c]; omega
  rw [hat, hll]
  show (swapF _ _ _).ord.take ((swapF _ _ _).ord.length - 1) = _
  rw [swapF_len.1, c, swapF_swp, e, show P.starts.length - h = P.starts.length - 1 - h + 1 by omega]
  show _ = (swp (tr P.ord q (bAt P h) (P.starts.length - 1 - h)) (fromAt q (bAt P h) (P.starts.length - 1 - h)) (bAt P h (P.starts.length - 1 - h))).take _
  rw [hbl]

section
variable {P : Pk} {x : Int} {q h : Nat}
theorem Vf.get (f : Vf P x q h) (hmv : Mv P x h) {j p : Nat} (hj : j < P.starts.length - h) (hp : p < bAt P h j) : (verifyF P x).ord[p]? = (tr P.ord q (bAt P h) (j + 1))[p]? := by
  have hl := f.way.hl (P.starts.length - h - 1) (by omega)
  have hmono := b_mono f.way j (P.starts.length - h - 1 - j) (by omega)
  rw [show j + (P.starts.length - h - 1 - j) = P.starts.length - h - 1 by omega] at hmono
  rw [f.ord hmv, List.getElem?_take, if_pos (by omega)]
  have := tr_stays f.way j (P.starts.length - h - 1 - j) (by omega) p hp
  rw [show j + 1 + (P.starts.length - h - 1 - j) = P.starts.length - h by omega] at this
  exact this
/-- Below its own bucket nothing turns; within it the bucket's last fills its place. -/
theorem Vf.own (f : Vf P x q h) (hmv : Mv P x h) {p : Nat} {y : Int} (hp : p + 1 < lowF P.held P.ord (-1) (h + 1)) (hy : P.ord[p]? = some y) :
    (verifyF P x).ord[p]? = if y = x then P.ord[lowF P.held P.ord (-1) (h + 1) - 1]? else some y := by
  have hk := f.hk
  have hb : bAt P h 0 = lowF P.held P.ord (-1) (h + 1) - 1 := rfl
  rw [f.get hmv (j := 0) (by omega) (by rw [hb]; omega)]
  by_cases e : y = x
  · subst e
    have : p = q := f.v.inv.inj hy f.hq
    subst this
    rw [if_pos rfl, ← hb]
    exact tr_head f.way 0 (by omega) (by show p < bAt P h 0; omega)
  · rw [if_neg e, ← hy]
    refine tr_mid f.way 0 (by omega) p (fun h => absurd rfl h) (by rw [hb]; omega) ?_
    intro e2
    have e3 : p = q := e2
    subst e3
    rw [f.hq] at hy
    exact e (Option.some.inj hy).symm
/-- Above it each bucket is turned by one. -/
theorem Vf.first (f : Vf P x q h) (hmv : Mv P x h) {m : Nat} (hm : h < m) (hmk : m < P.starts.length) (hne : lowF P.held P.ord (-1) m < lowF P.held P.ord (-1) (m + 1)) :
    (verifyF P x).ord[lowF P.held P.ord (-1) m - 1]? = P.ord[lowF P.held P.ord (-1) (m + 1) - 1]? := by
  have h1 : bAt P h (m - h - 1) = lowF P.held P.ord (-1) m - 1 := by unfold bAt; rw [show h + (m - h - 1) + 1 = m by omega]
  have h2 : bAt P h (m - h) = lowF P.held P.ord (-1) (m + 1) - 1 := by unfold bAt; rw [show h + (m - h) + 1 = m + 1 by omega]
  have hp := f.pos (m - h - 1)
  rw [show h + (m - h - 1) + 1 = m by omega] at hp
  have hf : fromAt q (bAt P h) (m - h) = lowF P.held P.ord (-1) m - 1 := by unfold fromAt; rw [if_neg (by omega), h1]
  rw [f.get hmv (j := m - h) (by omega) (by rw [h2]; omega), ← h2, ← hf]
  exact tr_head f.way (m - h) (by omega) (by rw [hf, h2]; omega)
theorem Vf.next (f : Vf P x q h) (hmv : Mv P x h) {m p : Nat} (hm : h < m) (hmk : m < P.starts.length) (h1 : lowF P.held P.ord (-1) m ≤ p) (h2 : p + 1 < lowF P.held P.ord (-1) (m + 1)) :
    (verifyF P x).ord[p]? = P.ord[p]? := by
  have e1 : bAt P h (m - h - 1) = lowF P.held P.ord (-1) m - 1 := by unfold bAt; rw [show h + (m - h - 1) + 1 = m by omega]
  have e2 : bAt P h (m - h) = lowF P.held P.ord (-1) (m + 1) - 1 := by unfold bAt; rw [show h + (m - h) + 1 = m + 1 by omega]
  have hp := f.pos (m - h - 1)
  rw [show h + (m - h - 1) + 1 = m by omega] at hp
  have hf : fromAt q (bAt P h) (m - h) = lowF P.held P.ord (-1) m - 1 := by unfold fromAt; rw [if_neg (by omega), e1]
  rw [f.get hmv (j := m - h) (by omega) (by rw [e2]; omega)]
  exact tr_mid f.way (m - h) (by omega) p (fun _ => by rw [e1]; omega) (by rw [e2]; omega) (by rw [hf]; omega)
end
end Go.Proofs.Qxb6602173a
