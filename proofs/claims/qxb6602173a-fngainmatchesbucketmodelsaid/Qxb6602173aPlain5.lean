import Derived.Test.Qxb6602173aTrack
import Derived.Test.Qxb6602173aPlainG
namespace Go.Proofs.Qxb6602173a
set_option linter.unusedVariables false
set_option linter.unusedSimpArgs false

/-! at, filled along an order. -/
def fillTo (at0 F : List Int) : Nat → List Int
  | 0 => at0
  | q + 1 => (fillTo at0 F q).set (F.getD q 0).toNat (q : Int)
theorem fillTo_len (at0 F : List Int) : ∀ q, (fillTo at0 F q).length = at0.length
  | 0 => rfl
  | q + 1 => by simp only [fillTo, List.length_set]; exact fillTo_len at0 F q
theorem fill_part {at0 F A : List Int} (hlen : A.length = at0.length) (h1 : ∀ (q : Nat) (y : Int), F[q]? = some y → A[y.toNat]? = some (q : Int)) :
    ∀ q, q ≤ F.length → ∀ idx : Nat, ((∃ (q' : Nat) (y : Int), q' < q ∧ F[q']? = some y ∧ y.toNat = idx) → (fillTo at0 F q)[idx]? = A[idx]?) ∧ ((∀ (q' : Nat) (y : Int), q' < q → F[q']? = some y → y.toNat ≠ idx) → (fillTo at0 F q)[idx]? = at0[idx]?)
  | 0, _, idx => ⟨fun ⟨q', _, h, _⟩ => absurd h (Nat.not_lt_zero q'), fun _ => rfl⟩
  | q + 1, hq, idx => by
    have ih := fill_part hlen h1 q (by omega) idx
    obtain ⟨z, hz⟩ := some_of (l := F) (show q < F.length by omega)
    have hzl : z.toNat < (fillTo at0 F q).length := by
      rw [fillTo_len, ← hlen]
      exact lt_of (h1 q z hz)
    simp only [fillTo, getD_of hz]
    rw [List.getElem?_set]
    by_cases e : z.toNat = idx
    · rw [if_pos e, if_pos (by omega)]
      refine ⟨fun _ => by rw [← e, h1 q z hz], fun h => absurd e (h q z (by omega) hz)⟩
    · rw [if_neg e]
      refine ⟨fun ⟨q', y, h2, h3, h4⟩ => ih.1 ⟨q', y, ?_, h3, h4⟩, fun h => ih.2 fun q' y h2 h3 => h q' y (by omega) h3⟩
      rcases Nat.lt_or_ge q' q with h5 | h5
      · exact h5
      · obtain rfl : q' = q := by omega
        rw [hz] at h3
        cases h3
        exact absurd h4 e
theorem fill_all {at0 F A : List Int} (hlen : A.length = at0.length) (h1 : ∀ (q : Nat) (y : Int), F[q]? = some y → A[y.toNat]? = some (q : Int))
    (h2 : ∀ idx : Nat, (∀ (q : Nat) (y : Int), F[q]? = some y → y.toNat ≠ idx) → A[idx]? = at0[idx]?) : fillTo at0 F F.length = A := by
  apply List.ext_getElem?
  intro idx
  have := fill_part hlen h1 F.length (Nat.le_refl _) idx
  by_cases h : ∃ (q' : Nat) (y : Int), q' < F.length ∧ F[q']? = some y ∧ y.toNat = idx
  · exact this.1 h
  · have hn : ∀ (q : Nat) (y : Int), F[q]? = some y → y.toNat ≠ idx := fun q y hy e => h ⟨q, y, lt_of hy, hy, e⟩
    rw [this.2 fun q' y _ hy => hn q' y hy, h2 idx hn]

/-! What a step leaves alone. -/
def Keeps (P R : Pk) : Prop := R.ord.Perm P.ord ∧ ∀ idx : Nat, (∀ y ∈ P.ord, y.toNat ≠ idx) → R.at_[idx]? = P.at_[idx]?
theorem Keeps.refl (P : Pk) : Keeps P P := ⟨List.Perm.refl _, fun _ _ => rfl⟩
theorem Keeps.swap {P R : Pk} (k : Keeps P R) (hi : Inv R) {a b : Nat} {i j : Int} (ha : R.ord[a]? = some i) (hb : R.ord[b]? = some j) : Keeps P (swapF R a b) := by
  refine ⟨(swapF_perm ha hb).trans k.1, fun idx h => ?_⟩
  rw [swapF_at hi ha hb, if_neg, if_neg]
  · exact k.2 idx h
  · intro e
    exact h i (k.1.mem_iff.1 (List.mem_of_getElem? ha)) e.symm
  · intro e
    exact h j (k.1.mem_iff.1 (List.mem_of_getElem? hb)) e.symm
theorem Keeps.drop {P R : Pk} {x : Int} {m : Nat} (k : Keeps P R) (h : Mv R x m) (hm : m + 1 < R.starts.length) : Keeps P (dropStep R x m) := by
  obtain ⟨q, hq, ea, _, hql⟩ := h.place
  obtain ⟨s, hs, s1, s2⟩ := h.low (m + 1) (by omega) hm
  have es : startAt R (m + 1) = s := getD_of hs
  obtain ⟨b, hb⟩ := Int.eq_ofNat_of_zero_le (show 0 ≤ s - 1 by omega)
  obtain ⟨j, hj⟩ := some_of (l := R.ord) (show b < R.ord.length by omega)
  have := k.swap h.inv hq hj
  unfold dropStep
  rw [ea, es, hb]
  exact this
theorem Keeps.iter {P : Pk} {x : Int} {h : Nat} (hmv : Mv P x h) : ∀ j, h + j < P.starts.length → Keeps P (verIter P x h j)
  | 0, _ => Keeps.refl P
  | j + 1, hj => by
    obtain ⟨a, b, c⟩ := verIter_mv hmv j (by omega)
    exact (Keeps.iter hmv j (by omega)).drop a (by rw [b]; omega)

/-- Verify, whole: every field. -/
theorem Vf.whole {P : Pk} {x : Int} {q h : Nat} (f : Vf P x q h) (ok : VerOk P x) (hmv : Mv P x h) :
    (verifyF P x).st = P.st.set x.toNat 2 ∧ (verifyF P x).ver = P.ver + 1 ∧ (verifyF P x).act = (if P.st.getD x.toNat 0 = 1 then P.act - 1 else P.act) ∧ (verifyF P x).sec = P.sec.set x.toNat false ∧ (verifyF P x).que = P.que ∧ (verifyF P x).held = P.held ∧
      (verifyF P x).at_ = fillTo (P.at_.set x.toNat ((P.ord.length : Int) - 1)) (verifyF P x).ord (verifyF P x).ord.length ∧ (verifyF P x).starts = startsOf P.held P.ord x P.starts.length := by
  have hs := verHead_same P x
  have hk := f.hk
  have hhn : (heldAt P.held x).toNat = h := by rw [f.hh]; rfl
  have hmv0 := verHead_mv (P := P) hmv
  obtain ⟨a, b, c⟩ := verIter_mv hmv0 (P.starts.length - 1 - h) (by rw [hs.2.2.1]; omega)
  have hf := verIter_fields (verHead P x) x h (P.starts.length - 1 - h)
  obtain ⟨qx, hqx, ea, eat, hql⟩ := a.place
  rw [hs.1] at c
  have hl0 := lt_of f.hq
  obtain ⟨j, hj⟩ := some_of (l := (verIter (verHead P x) x h (P.starts.length - 1 - h)).ord) (show P.ord.length - 1 < _ by omega)
  have hb : ((verIter (verHead P x) x h (P.starts.length - 1 - h)).ord.length : Int) - 1 = ((P.ord.length - 1 : Nat) : Int) := by omega
  have e : verifyF P x = cutF (swapF (verIter (verHead P x) x h (P.starts.length - 1 - h)) (qx : Int) ((P.ord.length - 1 : Nat) : Int)) := by
    unfold verifyF verTail
    rw [hhn, ea, hb]
  have i3 := swapF_inv a.inv hqx hj
  have m3 := swapF_moved hqx hj
  have k0 : Keeps P (verHead P x) := ⟨by rw [hs.1], fun idx _ => by rw [hs.2.1]⟩
  have k1 : Keeps (verHead P x) _ := Keeps.iter hmv0 (P.starts.length - 1 - h) (by rw [hs.2.2.1]; omega)
  have k2 := k1.swap a.inv hqx hj
  have hst0 : (verHead P x).st = P.st.set x.toNat 2 := by unfold verHead; split <;> rfl
  have hver0 : (verHead P x).ver = P.ver + 1 := by unfold verHead; split <;> rfl
  have hact0 : (verHead P x).act = (if P.st.getD x.toNat 0 = 1 then P.act - 1 else P.act) := by unfold verHead; split <;> rfl
  have hsec0 : (verHead P x).sec = P.sec.set x.toNat false := by
    unfold verHead
    split
    · rfl
    · rename_i hn
      show P.sec = _
      symm
      apply List.ext_getElem?
      intro idx
      rw [List.getElem?_set]
      by_cases e : x.toNat = idx
      · subst e
        have hxl : x.toNat < P.sec.length := by rw [ok.sec]; have := ok.x0; have := ok.x1; omega
        rw [if_pos rfl, if_pos hxl]
        obtain ⟨y, hy⟩ := some_of (l := P.st) (show x.toNat < P.st.length by have := ok.x0; have := ok.x1; omega)
        obtain ⟨cc, hc⟩ := some_of hxl
        rw [hc]
        cases cc with
        | false => rfl
        | true =>
          exfalso
          have := (f.v.sts x.toNat y hy).2 hc
          rw [getD_of hy] at hn
          exact hn this
      · rw [if_neg e]
  rw [e]
  refine ⟨hf.1.trans hst0, hf.2.1.trans hver0, hf.2.2.1.trans hact0, hf.2.2.2.1.trans hsec0, hf.2.2.2.2.1.trans hs.2.2.2.2, hf.2.2.2.2.2.1.trans hs.2.2.2.1, ?_, ?_⟩
  · -- at
    symm
    have hlen3 : (swapF (verIter (verHead P x) x h (P.starts.length - 1 - h)) (qx : Int) ((P.ord.length - 1 : Nat) : Int)).ord.length = P.ord.length := by rw [swapF_len.1, c]
    refine fill_all (A := (swapF (verIter (verHead P x) x h (P.starts.length - 1 - h)) (qx : Int) ((P.ord.length - 1 : Nat) : Int)).at_) ?_ ?_ ?_
    · rw [swapF_len.2, hf.2.2.2.2.2.2, hs.2.1, List.length_set]
    · intro q' y hy
      simp only [cutF] at hy
      rw [List.getElem?_take] at hy
      split at hy
      · exact (i3 q' y hy).2.2
      · cases hy
    · intro idx hn
      rw [List.getElem?_set]
      by_cases ex : x.toNat = idx
      · have hx3 := (i3 _ x m3).2.2
        rw [if_pos ex, ← ex, hx3, if_pos (by rw [ok.at_]; have := ok.x0; have := ok.x1; omega)]
        congr 1
        omega
      · rw [if_neg ex, k2.2 idx, hs.2.1]
        intro y hy e2
        rw [hs.1] at hy
        have hy3 := (k2.1.trans (by rw [hs.1])).mem_iff.2 hy
        obtain ⟨p, hp⟩ := List.getElem?_of_mem hy3
        have hpl := lt_of hp
        rw [hlen3] at hpl
        by_cases ep : p = P.ord.length - 1
        · subst ep
          rw [m3] at hp
          cases hp
          exact ex e2
        · refine hn p y ?_ e2
          simp only [cutF]
          rw [List.getElem?_take, if_pos (by rw [hlen3]; omega)]
          exact hp
  · -- starts
    show (verIter (verHead P x) x h (P.starts.length - 1 - h)).starts = _
    apply List.ext_getElem?
    intro m
    by_cases hm : m < P.starts.length
    · have g := verIter_starts hmv0 (P.starts.length - 1 - h) (by rw [hs.2.2.1]; omega) m (by rw [hs.2.2.1]; exact hm)
      have es : startAt (verHead P x) m = (lowF P.held P.ord (-1) m : Int) := by
        unfold startAt
        rw [hs.2.2.1]
        refine getD_of ?_
        conv => lhs; rw [f.v.starts]
        exact startsOf_get _ _ _ _ _ hm
      rw [g, es, startsOf_get _ _ _ _ _ hm]
      congr 1
      have hone := countP_one (p := fun y => y != -1 && decide (heldAt P.held y < (m : Int))) (p' := fun y => y != x && decide (heldAt P.held y < (m : Int))) (i := x) f.v.inv.nodup (List.mem_of_getElem? f.hq) (by
        intro y hy hne
        have := f.v.pos y hy
        have e1 : (y != -1) = true := bne_iff_ne.2 (by omega)
        have e2 : (y != x) = true := bne_iff_ne.2 hne
        rw [e1, e2])
      have x1 : (x != -1) = true := bne_iff_ne.2 (by have := ok.x0; omega)
      have x2 : (x != x) = false := by simp
      have l1 : lowF P.held P.ord (-1) m = P.ord.countP (fun y => y != -1 && decide (heldAt P.held y < (m : Int))) := rfl
      have l2 : lowF P.held P.ord x m = P.ord.countP (fun y => y != x && decide (heldAt P.held y < (m : Int))) := rfl
      simp only [x1, x2, Bool.true_and, Bool.false_and, f.hh, decide_eq_true_eq] at hone
      rw [← l1, ← l2] at hone
      by_cases e3 : (h : Int) < (m : Int)
      · rw [if_pos (by omega)]
        rw [if_pos e3] at hone
        simp at hone
        omega
      · rw [if_neg (by omega)]
        rw [if_neg e3] at hone
        simp at hone
        omega
    · rw [List.getElem?_eq_none (by rw [b, hs.2.2.1]; omega), List.getElem?_eq_none (by rw [startsOf_length]; omega)]
end Go.Proofs.Qxb6602173a
