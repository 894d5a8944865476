import Derived.Test.Qxb6602173aBkt
import Derived.Test.Qxb6602173aGain
namespace Go.Proofs.Qxb6602173a
set_option linter.unusedVariables false
set_option linter.unusedSimpArgs false

theorem Inv.nodup {P : Pk} (h : Inv P) : P.ord.Nodup := by
  rw [List.nodup_iff_pairwise_ne, List.pairwise_iff_getElem]
  intro i j hi hj hij e
  have := h.inj (List.getElem?_eq_getElem hi) (e ▸ List.getElem?_eq_getElem hj)
  omega
theorem countP_one {p p' : Int → Bool} {i : Int} : ∀ {l : List Int}, l.Nodup → i ∈ l → (∀ x ∈ l, x ≠ i → p x = p' x) → l.countP p' + (if p i = true then 1 else 0) = l.countP p + (if p' i = true then 1 else 0)
  | [], _, h, _ => by cases h
  | x :: t, hn, hm, hp => by
    rw [List.nodup_cons] at hn
    rw [List.countP_cons, List.countP_cons]
    by_cases hx : x = i
    · subst hx
      have : t.countP p' = t.countP p := by
        apply List.countP_congr
        intro y hy
        rw [hp y (by simp [hy]) (fun e => hn.1 (e ▸ hy))]
      omega
    · have hm' : i ∈ t := by
        rw [List.mem_cons] at hm
        rcases hm with h | h
        · exact absurd h.symm hx
        · exact h
      have ih := countP_one hn.2 hm' (fun y hy => hp y (by simp [hy]))
      rw [hp x (by simp) hx]
      omega
theorem heldAt_set (held : List Int) (i j v : Int) (hi : i.toNat < held.length) (h0 : 0 ≤ i) (h1 : 0 ≤ j) : heldAt (held.set i.toNat v) j = if j = i then v else heldAt held j := by
  unfold heldAt
  rw [List.getD, List.getD, List.getElem?_set]
  by_cases e : j = i
  · subst e; simp [hi]
  · rw [if_neg (by omega), if_neg e]

/-- Gain of a piece not verified, written out. -/
theorem Valid.gain_shape {P : Pk} (v : Valid P) {i : Int} (h0 : 0 ≤ i) (h1 : i < P.st.length) (hst : P.st[i.toNat]? ≠ some 2) :
    ∃ (q b h : Nat) (j : Int), P.ord[q]? = some i ∧ heldAt P.held i = (h : Int) ∧ h < P.starts.length ∧ lowF P.held P.ord (-1) (h + 1) = b + 1 ∧ P.ord[b]? = some j ∧ q ≤ b ∧ heldAt P.held j = (h : Int) ∧
      gainF P i = { swapF P q b with held := P.held.set i.toNat ((h : Int) + 1), starts := (if h + 1 = P.starts.length then P.starts ++ [(P.ord.length : Int)] else P.starts).set (h + 1) (b : Int) } := by
  obtain ⟨q, hq⟩ := v.lists h0 h1 hst
  have ok := v.ords q i hq
  obtain ⟨h, hh⟩ := Int.eq_ofNat_of_zero_le ok.h0
  have hhk : h < P.starts.length := by have := ok.h1; omega
  have hpos := v.lowpos hq (m := h + 1) (by omega)
  have hle := lowF_le P.held P.ord (-1) (h + 1)
  obtain ⟨b, hb⟩ : ∃ b, lowF P.held P.ord (-1) (h + 1) = b + 1 := ⟨_, (Nat.succ_pred_eq_of_pos hpos).symm⟩
  obtain ⟨j, hj⟩ := some_of (l := P.ord) (show b < P.ord.length by omega)
  have hqb : q < b + 1 := by rw [← hb]; exact (v.below hq (h + 1)).1 (by omega)
  have hjh : heldAt P.held j < ((h + 1 : Nat) : Int) := (v.below hj (h + 1)).2 (by omega)
  have hjh2 : heldAt P.held i ≤ heldAt P.held j := v.mono (b - q) q i j hq (by rw [show q + (b - q) = b by omega]; exact hj)
  refine ⟨q, b, h, j, hq, hh, hhk, hb, hj, by omega, by omega, ?_⟩
  have hat : atOf (gainHead P i) i = (q : Int) := getD_of (by have := (v.inv q i hq).2.2; exact this)
  have hsa : startAt (gainHead P i) (h + 1) = ((b + 1 : Nat) : Int) := by
    unfold startAt gainHead
    rw [hh]
    by_cases e : h + 1 = P.starts.length
    · rw [if_pos (by omega)]
      have := v.top
      rw [← e, hb] at this
      show (P.starts ++ [(P.ord.length : Int)]).getD (h + 1) 0 = _
      rw [List.getD, List.getElem?_append_right (by omega), e]
      simp
      omega
    · rw [if_neg (by omega)]
      have := v.starts
      have g : P.starts[h + 1]? = some (lowF P.held P.ord (-1) (h + 1) : Int) := by
        conv => lhs; rw [v.starts]
        exact startsOf_get _ _ _ _ _ (by omega)
      rw [hb] at g
      exact getD_of g
  have hnot : ¬ P.st.getD i.toNat 0 = 2 := by
    obtain ⟨y, hy⟩ := some_of (l := P.st) (show i.toNat < P.st.length by omega)
    rw [getD_of hy]
    intro e
    exact hst (by rw [hy, e])
  unfold gainF
  rw [if_neg hnot, hh]
  have e1 : ((h : Nat) : Int).toNat = h := by omega
  rw [e1]
  unfold dropStep
  rw [hat, hsa, show ((b + 1 : Nat) : Int) - 1 = (b : Int) by omega]
  have e2 : (gainHead P i) = { P with held := P.held.set i.toNat ((h : Int) + 1), starts := (if h + 1 = P.starts.length then P.starts ++ [(P.ord.length : Int)] else P.starts) } := by
    unfold gainHead
    rw [hh]
    by_cases e : h + 1 = P.starts.length
    · rw [if_pos e, if_pos (by omega)]
    · rw [if_neg e, if_neg (by omega)]
  rw [e2]
  rfl

theorem Valid.gain {P : Pk} (v : Valid P) {i : Int} (h0 : 0 ≤ i) (h1 : i < P.st.length) (hst : P.st[i.toNat]? ≠ some 2) : Valid (gainF P i) := by
  obtain ⟨q, b, h, j, hq, hh, hhk, hb, hj, hqb, hjh, e⟩ := v.gain_shape h0 h1 hst
  have hil : i.toNat < P.held.length := by rw [v.held]; omega
  have hinv : Inv (swapF P q b) := swapF_inv v.inv hq hj
  have hmem : ∀ y, y ∈ (swapF P q b).ord → y ∈ P.ord := fun y hy => (swapF_perm hq hj).mem_iff.1 hy
  have hlenK : ((if h + 1 = P.starts.length then P.starts ++ [(P.ord.length : Int)] else P.starts).set (h + 1) (b : Int)).length = if h + 1 = P.starts.length then P.starts.length + 1 else P.starts.length := by
    rw [List.length_set]; split <;> simp
  have hord : ∀ p y, (swapF P q b).ord[p]? = some y → heldAt (P.held.set i.toNat ((h : Int) + 1)) y = if p = b then (h : Int) + 1 else heldAt P.held ((P.ord[p]?).getD 0) := by
    intro p y hy
    have hy0 := v.pos y (hmem y (List.mem_of_getElem? hy))
    rw [heldAt_set _ _ _ _ hil h0 hy0]
    rw [swapF_ord hq hj] at hy
    by_cases ep : p = b
    · rw [if_pos ep] at hy
      cases hy
      rw [if_pos rfl, if_pos ep]
    · rw [if_neg ep] at hy
      rw [if_neg ep]
      by_cases eq : p = q
      · rw [if_pos eq] at hy
        cases hy
        have hne : j ≠ i := by
          intro e
          subst e
          exact ep (eq.trans (v.inv.inj hq hj))
        rw [if_neg hne, eq, hq]
        show heldAt P.held j = heldAt P.held i
        rw [hjh, hh]
      · rw [if_neg eq] at hy
        have hne : y ≠ i := by
          intro e
          subst e
          exact eq (v.inv.inj hy hq)
        rw [if_neg hne, hy]
        rfl
  rw [e]
  refine ⟨v.sec, by show (P.held.set _ _).length = _; rw [List.length_set]; exact v.held, by show (swapF P q b).at_.length = _; rw [swapF_len.2]; exact v.at_, v.sts, v.nv, v.na, by show ((swapF P q b).ord.length : Int) = _; rw [swapF_len.1]; exact v.ordl, ?_, ?_, ?_⟩
  · show 1 ≤ List.length _
    rw [hlenK]
    have := v.k1
    split <;> omega
  · intro p y hy
    have hyo : y ∈ P.ord := hmem y (List.mem_of_getElem? hy)
    obtain ⟨p0, hp0⟩ := List.getElem?_of_mem hyo
    have oky := v.ords p0 y hp0
    have hpl : p < P.ord.length := by have := lt_of hy; rw [show ({ swapF P q b with held := P.held.set i.toNat ((h : Int) + 1), starts := (if h + 1 = P.starts.length then P.starts ++ [(P.ord.length : Int)] else P.starts).set (h + 1) (b : Int) } : Pk).ord = (swapF P q b).ord from rfl, swapF_len.1] at this; exact this
    obtain ⟨z, hz⟩ := some_of hpl
    have okz := v.ords p z hz
    have hv := hord p y hy
    refine ⟨oky.j0, oky.j1, oky.st, (hinv p y hy).2.2, ?_, ?_, ?_⟩
    · show 0 ≤ heldAt (P.held.set i.toNat ((h : Int) + 1)) y
      rw [hv, hz]
      have := okz.h0
      split
      · omega
      · exact okz.h0
    · show heldAt (P.held.set i.toNat ((h : Int) + 1)) y < ((List.length _ : Nat) : Int)
      rw [hv, hz, hlenK]
      have := okz.h1
      split
      · split <;> omega
      · show heldAt P.held z < _
        split <;> omega
    · intro y' hp hy'
      show heldAt (P.held.set i.toNat ((h : Int) + 1)) y' ≤ heldAt (P.held.set i.toNat ((h : Int) + 1)) y
      rw [hv, hord (p - 1) y' hy', hz]
      obtain ⟨z', hz'⟩ := some_of (l := P.ord) (show p - 1 < P.ord.length by omega)
      rw [hz']
      show (if p - 1 = b then (h : Int) + 1 else heldAt P.held z') ≤ if p = b then (h : Int) + 1 else heldAt P.held z
      have hzz : heldAt P.held z' ≤ heldAt P.held z := okz.srt z' hp hz'
      by_cases e1 : p - 1 = b
      · rw [if_pos e1, if_neg (by omega)]
        -- place p lies above bucket h
        have : ¬ heldAt P.held z < ((h + 1 : Nat) : Int) := by
          rw [v.below hz (h + 1)]
          omega
        omega
      · rw [if_neg e1]
        by_cases e2 : p = b
        · rw [if_pos e2]
          subst e2
          rw [hj] at hz
          cases hz
          omega
        · rw [if_neg e2]; exact hzz
  · show _ = startsOf (P.held.set i.toNat ((h : Int) + 1)) (swapF P q b).ord (-1) (List.length _)
    rw [hlenK]
    apply List.ext_getElem?
    intro m
    by_cases hm : m < (if h + 1 = P.starts.length then P.starts.length + 1 else P.starts.length)
    · rw [startsOf_get _ _ _ _ _ hm, lowF_perm (swapF_perm hq hj)]
      -- the count behind the change of one
      have hone := countP_one (p := fun y => y != -1 && decide (heldAt P.held y < (m : Int))) (p' := fun y => y != -1 && decide (heldAt (P.held.set i.toNat ((h : Int) + 1)) y < (m : Int))) (i := i) v.inv.nodup (List.mem_of_getElem? hq) (by
        intro y hy hne
        rw [heldAt_set _ _ _ _ hil h0 (v.pos y hy), if_neg hne])
      have hi1 : (i != -1) = true := bne_iff_ne.2 (by omega)
      have hlow : lowF P.held P.ord (-1) m = P.ord.countP (fun y => y != -1 && decide (heldAt P.held y < (m : Int))) := rfl
      have hlow2 : lowF (P.held.set i.toNat ((h : Int) + 1)) P.ord (-1) m = P.ord.countP (fun y => y != -1 && decide (heldAt (P.held.set i.toNat ((h : Int) + 1)) y < (m : Int))) := rfl
      simp only [hi1, Bool.true_and, heldAt_set _ _ _ _ hil h0 h0, if_pos, hh, decide_eq_true_eq] at hone
      rw [← hlow, ← hlow2] at hone
      rw [List.getElem?_set]
      by_cases em : h + 1 = m
      · subst em
        rw [if_pos rfl, if_pos (by
          by_cases e : h + 1 = P.starts.length
          · rw [if_pos e]; simp; omega
          · rw [if_neg e]; omega)]
        congr 1
        rw [hb, if_pos (by omega), if_neg (by omega)] at hone
        omega
      · rw [if_neg em]
        have hlo : (if h + 1 = P.starts.length then P.starts ++ [(P.ord.length : Int)] else P.starts)[m]? = some (lowF P.held P.ord (-1) m : Int) := by
          have hmk : m < P.starts.length := by
            split at hm <;> omega
          have g : P.starts[m]? = some (lowF P.held P.ord (-1) m : Int) := by
            conv => lhs; rw [v.starts]
            exact startsOf_get _ _ _ _ _ hmk
          split
          · rw [List.getElem?_append_left hmk]; exact g
          · exact g
        rw [hlo]
        congr 1
        have : (if (h : Int) < (m : Int) then 1 else 0) = (if (h : Int) + 1 < (m : Int) then 1 else 0 : Nat) := by
          by_cases e3 : (h : Int) + 1 < (m : Int)
          · rw [if_pos e3, if_pos (by omega)]
          · rw [if_neg e3, if_neg (by omega)]
        omega
    · rw [List.getElem?_eq_none (by rw [hlenK]; omega), List.getElem?_eq_none (by rw [startsOf_length]; omega)]
end Go.Proofs.Qxb6602173a
