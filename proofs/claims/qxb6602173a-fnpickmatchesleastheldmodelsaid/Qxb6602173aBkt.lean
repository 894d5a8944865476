import Derived.Test.Qxb6602173aVal
namespace Go.Proofs.Qxb6602173a
set_option linter.unusedVariables false
set_option linter.unusedSimpArgs false

/-! Buckets: in a well-formed Picker bucket m is the run of places from lowF m to lowF (m + 1). -/

theorem sorted_count : ∀ (l : List Int) (m : Int), l.Pairwise (· ≤ ·) → ∀ (q : Nat) (y : Int), l[q]? = some y → (y < m ↔ q < l.countP (fun x => decide (x < m)))
  | [], _, _, q, y, h => by simp at h
  | x :: t, m, hp, q, y, h => by
    rw [List.pairwise_cons] at hp
    rw [List.countP_cons]
    by_cases hx : x < m
    · rw [if_pos (by simpa using hx)]
      cases q with
      | zero =>
        simp at h
        subst h
        constructor
        · intro _; omega
        · intro _; exact hx
      | succ q =>
        simp at h
        rw [sorted_count t m hp.2 q y h]
        omega
    · have hz : t.countP (fun x => decide (x < m)) = 0 := by
        rw [List.countP_eq_zero]
        intro z hz
        have := hp.1 z hz
        simp; omega
      rw [hz, if_neg (by simpa using hx)]
      cases q with
      | zero =>
        simp at h
        subst h
        constructor
        · intro h; exact absurd h hx
        · intro h; omega
      | succ q =>
        simp at h
        have := hp.1 y (List.mem_of_getElem? h)
        constructor
        · intro h; omega
        · intro h; omega

theorem lowF_map {held ord : List Int} (hp : ∀ j ∈ ord, 0 ≤ j) (m : Nat) : lowF held ord (-1) m = (ord.map (heldAt held)).countP (fun x => decide (x < (m : Int))) := by
  unfold lowF
  rw [List.countP_map]
  apply List.countP_congr
  intro j hj
  have := hp j hj
  have e : (j != -1) = true := bne_iff_ne.2 (by omega)
  simp [e]

theorem Valid.pos {P : Pk} (v : Valid P) : ∀ j ∈ P.ord, 0 ≤ j := by
  intro j hj
  obtain ⟨q, hq⟩ := List.getElem?_of_mem hj
  exact (v.ords q j hq).j0

theorem Valid.mono {P : Pk} (v : Valid P) : ∀ (d q : Nat) (i j : Int), P.ord[q]? = some i → P.ord[q + d]? = some j → heldAt P.held i ≤ heldAt P.held j
  | 0, q, i, j, h1, h2 => by
    rw [Nat.add_zero, h1] at h2
    cases h2
    exact Int.le_refl _
  | d + 1, q, i, j, h1, h2 => by
    obtain ⟨k, hk⟩ := some_of (l := P.ord) (show q + d < P.ord.length by have := lt_of h2; omega)
    have a := Valid.mono v d q i k h1 hk
    have b := (v.ords (q + (d + 1)) j h2).srt k (by omega) (by rw [show q + (d + 1) - 1 = q + d by omega]; exact hk)
    omega
theorem Valid.sorted {P : Pk} (v : Valid P) : (P.ord.map (heldAt P.held)).Pairwise (· ≤ ·) := by
  rw [List.pairwise_iff_getElem]
  intro i j hi hj hij
  simp at hi hj ⊢
  exact v.mono (j - i) i _ _ (List.getElem?_eq_getElem hi) (by rw [show i + (j - i) = j by omega]; exact List.getElem?_eq_getElem hj)

/-- The piece at place q is held by fewer than m peers just if q lies below bucket m. -/
theorem Valid.below {P : Pk} (v : Valid P) {q : Nat} {j : Int} (hj : P.ord[q]? = some j) (m : Nat) : heldAt P.held j < (m : Int) ↔ q < lowF P.held P.ord (-1) m := by
  rw [lowF_map v.pos, ← sorted_count _ (m : Int) v.sorted q (heldAt P.held j) (by rw [List.getElem?_map, hj]; rfl)]

theorem Valid.top {P : Pk} (v : Valid P) : lowF P.held P.ord (-1) P.starts.length = P.ord.length := by
  rw [lowF_map v.pos, List.countP_map, List.countP_eq_length.2]
  intro j hj
  obtain ⟨q, hq⟩ := List.getElem?_of_mem hj
  have := (v.ords q j hq).h1
  simpa using this
theorem lowF_mono (held ord : List Int) (m : Nat) : lowF held ord (-1) m ≤ lowF held ord (-1) (m + 1) := by
  rw [lowF_succ]; omega
theorem lowF_mono' (held ord : List Int) (m : Nat) : ∀ d, lowF held ord (-1) m ≤ lowF held ord (-1) (m + d)
  | 0 => Nat.le_refl _
  | d + 1 => Nat.le_trans (lowF_mono' held ord m d) (lowF_mono held ord (m + d))
theorem Valid.zero {P : Pk} (v : Valid P) : lowF P.held P.ord (-1) 0 = 0 := lowF_zero _ _ _ fun j hj _ => by
  obtain ⟨q, hq⟩ := List.getElem?_of_mem hj
  exact (v.ords q j hq).h0

/-- The count over a list with the same members, told by places. -/
theorem lowF_perm {held ord ord' : List Int} (h : ord.Perm ord') (m : Nat) : lowF held ord (-1) m = lowF held ord' (-1) m := h.countP_eq _
theorem set_set_perm {l : List Int} {a b : Nat} {x y : Int} (ha : l[a]? = some x) (hb : l[b]? = some y) : ((l.set a y).set b x).Perm l := by
  have la := lt_of ha
  have lb := lt_of hb
  obtain ⟨_, ea⟩ := List.getElem?_eq_some_iff.1 ha
  obtain ⟨_, eb⟩ := List.getElem?_eq_some_iff.1 hb
  have := List.set_set_perm la lb
  rw [ea, eb] at this
  exact this
theorem swapF_perm {P : Pk} {a b : Nat} {i j : Int} (hi : P.ord[a]? = some i) (hj : P.ord[b]? = some j) : (swapF P a b).ord.Perm P.ord := by
  simp only [swapF, Int.toNat_natCast, getD_of hi, getD_of hj]
  exact set_set_perm hi hj
end Go.Proofs.Qxb6602173a
