import Derived.Test.Qxb6602173aPlainG
namespace Go.Proofs.Qxb6602173a
set_option linter.unusedVariables false
set_option linter.unusedSimpArgs false

def gains (P : Pk) (scr : List Int) : Pk := scr.foldl gainF P
def bump (st held : List Int) (i : Int) : List Int := if st.getD i.toNat 0 = 2 then held else held.set i.toNat (heldAt held i + 1)
def bumps (st held scr : List Int) : List Int := scr.foldl (bump st) held

theorem gains_snoc (P : Pk) (scr : List Int) (i : Int) : gains P (scr ++ [i]) = gainF (gains P scr) i := by simp [gains]
theorem bumps_snoc (st held scr : List Int) (i : Int) : bumps st held (scr ++ [i]) = bump st (bumps st held scr) i := by simp [bumps]

theorem gainF_fields (P : Pk) (i : Int) : (gainF P i).st = P.st ∧ (gainF P i).ver = P.ver ∧ (gainF P i).act = P.act ∧ (gainF P i).sec = P.sec ∧ (gainF P i).que = P.que ∧ (gainF P i).held = bump P.st P.held i ∧ (gainF P i).ord.length = P.ord.length ∧ (gainF P i).starts.length ≤ P.starts.length + 1 := by
  unfold gainF bump
  split
  · exact ⟨rfl, rfl, rfl, rfl, rfl, rfl, rfl, by omega⟩
  · refine ⟨rfl, rfl, rfl, rfl, rfl, rfl, ?_, ?_⟩
    · have := (dropStep_fields (gainHead P i) i (heldAt P.held i).toNat).2.2.2.2.2.2.1
      rw [this]; rfl
    · have := (dropStep_fields (gainHead P i) i (heldAt P.held i).toNat).2.2.2.2.2.2.2.2
      rw [this]
      unfold gainHead
      show (if _ then _ else _ : List Int).length ≤ _
      split <;> simp

structure Run (P : Pk) (scr : List Int) (R : Pk) : Prop where
  v : Valid R
  st : R.st = P.st
  ver : R.ver = P.ver
  act : R.act = P.act
  sec : R.sec = P.sec
  que : R.que = P.que
  held : R.held = bumps P.st P.held scr
  ordl : R.ord.length = P.ord.length
  k : R.starts.length ≤ P.starts.length + scr.length

theorem Valid.gain_any {P : Pk} (v : Valid P) {i : Int} (h0 : 0 ≤ i) (h1 : i < P.st.length) : Valid (gainF P i) := by
  by_cases hst : P.st[i.toNat]? = some 2
  · unfold gainF
    rw [if_pos (getD_of hst)]
    exact v
  · exact v.gain h0 h1 hst

theorem run_of {P : Pk} (v : Valid P) : ∀ (scr : List Int), (∀ y ∈ scr, 0 ≤ y ∧ y < P.st.length) → Run P scr (gains P scr) := by
  intro scr
  have key : ∀ (r s : List Int), (∀ y ∈ r, 0 ≤ y ∧ y < P.st.length) → ∀ R, Run P s R → Run P (s ++ r) (r.foldl gainF R) := by
    intro r
    induction r with
    | nil =>
      intro s _ R h
      rw [List.append_nil]
      exact h
    | cons i t ih =>
      intro s hr R h
      have hi := hr i (by simp)
      have hf := gainF_fields R i
      have := ih (s ++ [i]) (fun y hy => hr y (by simp [hy])) (gainF R i) ⟨h.v.gain_any hi.1 (by rw [h.st]; exact hi.2), hf.1.trans h.st, hf.2.1.trans h.ver, hf.2.2.1.trans h.act, hf.2.2.2.1.trans h.sec, hf.2.2.2.2.1.trans h.que, by
        rw [hf.2.2.2.2.2.1, h.held, h.st, bumps_snoc], hf.2.2.2.2.2.2.1.trans h.ordl, by
        have := hf.2.2.2.2.2.2.2
        have := h.k
        simp
        omega⟩
      simpa using this
  intro hs
  have := key scr [] hs P ⟨v, rfl, rfl, rfl, rfl, rfl, rfl, rfl, by simp⟩
  simpa [gains] using this

theorem Valid.gainOk {P : Pk} (v : Valid P) {i : Int} (h0 : 0 ≤ i) (h1 : i < P.st.length) (hk : P.starts.length + 1 ≤ 16777216) : GainOk P i := by
  refine ⟨h0, h1, v.at_, v.held, fun hst => ?_⟩
  obtain ⟨q, hq⟩ := v.lists h0 h1 hst
  have ok := v.ords q i hq
  exact ⟨ok.h0, ok.h1, v.mv h0 h1 hst, hk⟩

theorem bump_len (st held : List Int) (i : Int) : (bump st held i).length = held.length := by
  unfold bump; split <;> simp
/-- A count that is raised is small. -/
theorem Run.small {P R : Pk} {scr : List Int} (h : Run P scr R) {i : Int} (h0 : 0 ≤ i) (h1 : i < P.st.length) (hst : P.st[i.toNat]? ≠ some 2) : 0 ≤ heldAt (bumps P.st P.held scr) i ∧ heldAt (bumps P.st P.held scr) i ≤ P.starts.length + scr.length := by
  obtain ⟨q, hq⟩ := h.v.lists h0 (by rw [h.st]; exact h1) (by rw [h.st]; exact hst)
  have ok := h.v.ords q i hq
  have a := ok.h0
  have b := ok.h1
  have c := h.k
  rw [h.held] at a b
  omega
end Go.Proofs.Qxb6602173a
