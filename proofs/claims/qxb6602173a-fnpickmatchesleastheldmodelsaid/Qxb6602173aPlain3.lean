import Derived.Test.Qxb6602173aPlain6
import Derived.Test.Qxb6602173aBkt
namespace Go.Proofs.Qxb6602173a
set_option linter.unusedVariables false
set_option linter.unusedSimpArgs false

/-- The share, by products. -/
theorem share_iff (A Q : Int) (L : Nat) (hQ : 1 ≤ Q) : ((A + Q - 1) / Q ≤ (L : Int)) ↔ ¬ (L : Int) * Q < A := by
  have h1 : (A + Q - 1) / Q ≤ (L : Int) ↔ (A + Q - 1) / Q < (L : Int) + 1 := by omega
  rw [h1, Int.ediv_lt_iff_lt_mul (by omega)]
  have : ((L : Int) + 1) * Q = (L : Int) * Q + Q := by rw [Int.add_mul, Int.one_mul]
  omega

/-- The best so far: none, or a candidate with the least place. -/
def Best (C : Nat → Bool) (at_ : List Int) (n : Nat) (b : Int) : Prop :=
  (b = -1 ∧ ∀ i, i < n → C i = false) ∨ (0 ≤ b ∧ b < n ∧ C b.toNat = true ∧ ∀ i, i < n → C i = true → at_.getD b.toNat 0 ≤ at_.getD i 0)
theorem Best.zero (C : Nat → Bool) (at_ : List Int) : Best C at_ 0 (-1) := .inl ⟨rfl, fun i h => absurd h (Nat.not_lt_zero i)⟩
theorem Best.skip {C : Nat → Bool} {at_ : List Int} {n : Nat} {b : Int} (h : Best C at_ n b) (hc : C n = false) : Best C at_ (n + 1) b := by
  rcases h with ⟨e, h⟩ | ⟨h0, h1, h2, h3⟩
  · refine .inl ⟨e, fun i hi => ?_⟩
    rcases Nat.lt_or_ge i n with hl | hl
    · exact h i hl
    · obtain rfl : i = n := by omega
      exact hc
  · refine .inr ⟨h0, by omega, h2, fun i hi hC => ?_⟩
    rcases Nat.lt_or_ge i n with hl | hl
    · exact h3 i hl hC
    · obtain rfl : i = n := by omega
      rw [hc] at hC
      cases hC
theorem Best.first {C : Nat → Bool} {at_ : List Int} {n : Nat} {b : Int} (h : Best C at_ n b) (hc : C n = true) (hb : b < 0) : Best C at_ (n + 1) (n : Int) := by
  rcases h with ⟨e, h⟩ | ⟨h0, _⟩
  · refine .inr ⟨by omega, by omega, by rw [Int.toNat_natCast]; exact hc, fun i hi hC => ?_⟩
    rcases Nat.lt_or_ge i n with hl | hl
    · rw [h i hl] at hC
      cases hC
    · obtain rfl : i = n := by omega
      rw [Int.toNat_natCast]
      exact Int.le_refl _
  · omega
theorem Best.better {C : Nat → Bool} {at_ : List Int} {n : Nat} {b : Int} (h : Best C at_ n b) (hc : C n = true) (hb : 0 ≤ b) (hlt : at_.getD n 0 < at_.getD b.toNat 0) : Best C at_ (n + 1) (n : Int) := by
  rcases h with ⟨e, h⟩ | ⟨h0, h1, h2, h3⟩
  · omega
  · refine .inr ⟨by omega, by omega, by rw [Int.toNat_natCast]; exact hc, fun i hi hC => ?_⟩
    rw [Int.toNat_natCast]
    rcases Nat.lt_or_ge i n with hl | hl
    · have := h3 i hl hC
      omega
    · obtain rfl : i = n := by omega
      exact Int.le_refl _
theorem Best.worse {C : Nat → Bool} {at_ : List Int} {n : Nat} {b : Int} (h : Best C at_ n b) (hb : 0 ≤ b) (hge : ¬ at_.getD n 0 < at_.getD b.toNat 0) : Best C at_ (n + 1) b := by
  rcases h with ⟨e, h⟩ | ⟨h0, h1, h2, h3⟩
  · omega
  · refine .inr ⟨h0, by omega, h2, fun i hi hC => ?_⟩
    rcases Nat.lt_or_ge i n with hl | hl
    · exact h3 i hl hC
    · obtain rfl : i = n := by omega
      omega
theorem Best.range {C : Nat → Bool} {at_ : List Int} {n : Nat} {b : Int} (h : Best C at_ n b) : -1 ≤ b ∧ b < n ∨ b = -1 := by
  rcases h with ⟨e, _⟩ | ⟨h0, h1, _⟩
  · right; exact e
  · left; omega

/-- The best is what the search finds. -/
theorem Best.found {P : Pk} (v : Valid P) {C : Nat → Bool} {p : Int → Bool} {s : Nat} {b : Int}
    (hC : ∀ j : Nat, j < P.st.length → (C j = true ↔ ∃ q : Nat, s ≤ q ∧ P.ord[q]? = some (j : Int) ∧ p (j : Int) = true)) (h : Best C P.at_ P.st.length b) :
    (P.ord.drop s).find? p = if b < 0 then none else some b := by
  cases hf : (P.ord.drop s).find? p with
  | none =>
    rw [List.find?_eq_none] at hf
    rcases h with ⟨e, _⟩ | ⟨h0, h1, h2, h3⟩
    · rw [if_pos (by omega)]
    · exfalso
      obtain ⟨q, hq, ho, hp⟩ := (hC b.toNat (by omega)).1 h2
      rw [Int.toNat_of_nonneg h0] at ho hp
      refine hf b ?_ hp
      have : (P.ord.drop s)[q - s]? = some b := by rw [List.getElem?_drop, show s + (q - s) = q by omega]; exact ho
      exact List.mem_of_getElem? this
  | some x =>
    obtain ⟨hp, k, hk, hx, hbefore⟩ := List.find?_eq_some_iff_getElem.1 hf
    have hox : P.ord[s + k]? = some x := by
      rw [← List.getElem?_drop, List.getElem?_eq_getElem hk, hx]
    have okx := v.ords (s + k) x hox
    have hx0 := okx.j0
    have hx1 := okx.j1
    have hCx : C x.toNat = true := (hC x.toNat (by omega)).2 ⟨s + k, by omega, by rw [Int.toNat_of_nonneg hx0]; exact hox, by rw [Int.toNat_of_nonneg hx0]; exact hp⟩
    rcases h with ⟨e, h⟩ | ⟨h0, h1, h2, h3⟩
    · rw [h x.toNat (by omega)] at hCx
      cases hCx
    · rw [if_neg (by omega)]
      congr 1
      obtain ⟨q, hq, ho, hpb⟩ := (hC b.toNat (by omega)).1 h2
      rw [Int.toNat_of_nonneg h0] at ho hpb
      have ab : P.at_.getD b.toNat 0 = (q : Int) := getD_of (v.ords q b ho).at_
      have ax : P.at_.getD x.toNat 0 = ((s + k : Nat) : Int) := getD_of okx.at_
      have hle := h3 x.toNat (by omega) hCx
      rw [ab, ax] at hle
      have hge : ¬ q - s < k := by
        intro hlt
        have := hbefore (q - s) hlt
        have e2 : (P.ord.drop s)[q - s]'(by omega) = b := by
          have : (P.ord.drop s)[q - s]? = some b := by rw [List.getElem?_drop, show s + (q - s) = q by omega]; exact ho
          exact (List.getElem?_eq_some_iff.1 this).2
        rw [e2, hpb] at this
        simp at this
      have : q = s + k := by omega
      subst this
      rw [hox] at ho
      exact Option.some.inj ho

/-- Where the pieces begin that some peer holds. -/
theorem Valid.cut {P : Pk} (v : Valid P) : endF P.starts P.ord.length 0 = (lowF P.held P.ord (-1) 1 : Int) := by
  unfold endF
  by_cases h : 1 < P.starts.length
  · rw [if_pos (by omega)]
    exact getD_of (v.low h)
  · rw [if_neg (by omega)]
    have := v.top
    have k1 := v.k1
    rw [show P.starts.length = 1 by omega] at this
    rw [this]

def c1F (P : Pk) (has : List Int) (j : Nat) : Bool := (P.st.getD j 0 == 0) && decide (1 ≤ heldAt P.held (j : Int)) && hasB has (j : Int)
def c2F (P : Pk) (has fet : List Int) (j : Nat) : Bool := (P.st.getD j 0 == 1) && decide (1 ≤ heldAt P.held (j : Int)) && !(P.sec.getD j false) && hasB has (j : Int) && !(inB fet (j : Int))

theorem Valid.held1 {P : Pk} (v : Valid P) {q : Nat} {x : Int} (hq : P.ord[q]? = some x) : 1 ≤ heldAt P.held x ↔ lowF P.held P.ord (-1) 1 ≤ q := by
  have := v.below hq 1
  constructor
  · intro h
    have : ¬ heldAt P.held x < ((1 : Nat) : Int) := by omega
    rw [v.below hq 1] at this
    omega
  · intro h
    have : ¬ q < lowF P.held P.ord (-1) 1 := by omega
    rw [← v.below hq 1] at this
    omega
theorem Valid.c1 {P : Pk} (v : Valid P) (has : List Int) (j : Nat) (hj : j < P.st.length) : c1F P has j = true ↔ ∃ q : Nat, lowF P.held P.ord (-1) 1 ≤ q ∧ P.ord[q]? = some (j : Int) ∧ wantF P.st has (j : Int) = true := by
  unfold c1F wantF
  simp only [Bool.and_eq_true, beq_iff_eq, decide_eq_true_eq, Int.toNat_natCast]
  constructor
  · rintro ⟨⟨h1, h2⟩, h3⟩
    obtain ⟨q, hq⟩ := v.lists (x := (j : Int)) (by omega) (by omega) (by
      rw [Int.toNat_natCast]
      intro e
      rw [getD_of e] at h1
      exact absurd h1 (by decide))
    exact ⟨q, (v.held1 hq).1 h2, hq, h1, h3⟩
  · rintro ⟨q, hs, hq, h1, h3⟩
    exact ⟨⟨h1, (v.held1 hq).2 hs⟩, h3⟩
theorem count3 : ∀ l : List Int, l.countP (· == 0) + l.countP (· == 1) + l.countP (· == 2) ≤ l.length
  | [] => by simp
  | x :: t => by
    have := count3 t
    simp only [List.countP_cons, List.length_cons]
    by_cases h0 : x = 0
    · subst h0; simp; omega
    · by_cases h1 : x = 1
      · subst h1; simp; omega
      · by_cases h2 : x = 2
        · subst h2; simp; omega
        · simp [h0, h1, h2]; omega
/-- In the end game every piece that order lists is active. -/
theorem Valid.allActive {P : Pk} (v : Valid P) (he : P.act = P.ord.length) {j : Nat} {y : Int} (hy : P.st[j]? = some y) (hne : y ≠ 2) : y = 1 := by
  have h3 := count3 P.st
  have nv := v.nv
  have na := v.na
  have ol := v.ordl
  have hz : P.st.countP (· == 0) = 0 := by omega
  rw [List.countP_eq_zero] at hz
  have hy0 := hz y (List.mem_of_getElem? hy)
  have := (v.sts j y hy).1
  rcases this with h | h | h
  · subst h; simp at hy0
  · exact h
  · exact absurd h hne
theorem Valid.c2 {P : Pk} (v : Valid P) (he : P.act = P.ord.length) (has fet : List Int) (j : Nat) (hj : j < P.st.length) : c2F P has fet j = true ↔ ∃ q : Nat, lowF P.held P.ord (-1) 1 ≤ q ∧ P.ord[q]? = some (j : Int) ∧ wantC P.sec has fet (j : Int) = true := by
  unfold c2F wantC
  simp only [Bool.and_eq_true, beq_iff_eq, decide_eq_true_eq, Int.toNat_natCast]
  constructor
  · rintro ⟨⟨⟨⟨h1, h2⟩, h3⟩, h4⟩, h5⟩
    obtain ⟨q, hq⟩ := v.lists (x := (j : Int)) (by omega) (by omega) (by
      rw [Int.toNat_natCast]
      intro e
      rw [getD_of e] at h1
      exact absurd h1 (by decide))
    exact ⟨q, (v.held1 hq).1 h2, hq, ⟨h3, h4⟩, h5⟩
  · rintro ⟨q, hs, hq, ⟨h3, h4⟩, h5⟩
    have ok := v.ords q _ hq
    obtain ⟨y, hy⟩ := some_of hj
    have hst := ok.st
    rw [Int.toNat_natCast, hy] at hst
    have := v.allActive he hy (fun e => hst (by rw [e]))
    exact ⟨⟨⟨⟨by rw [getD_of hy]; exact this, (v.held1 hq).2 hs⟩, h3⟩, h4⟩, h5⟩

/-- Pick's answer, by the law's own search. -/
def lawR (b : Int) : Option Int := if b < 0 then none else some b
theorem Valid.answer {P : Pk} (v : Valid P) (has fet : List Int) (queue : Int) (hq : 1 ≤ P.que) (hsh : (fet.length : Int) * P.que < ((P.st.length : Int) - P.ver) * queue) {b1 : Int} (h1 : Best (c1F P has) P.at_ P.st.length b1) :
    (0 ≤ b1 → pickF P has fet queue = some b1) ∧ (b1 < 0 → P.act ≠ P.ord.length → pickF P has fet queue = none) ∧
      (b1 < 0 → P.act = P.ord.length → ∀ b2, Best (c2F P has fet) P.at_ P.st.length b2 → pickF P has fet queue = lawR b2) := by
  have hs : shareF P fet.length queue = false := by
    unfold shareF
    rw [decide_eq_false_iff_not, share_iff _ _ _ hq]
    exact fun h => h hsh
  have hse : (endF P.starts P.ord.length 0).toNat = lowF P.held P.ord (-1) 1 := by rw [v.cut]; rfl
  have e1 := h1.found v (v.c1 has)
  have hpk : pickF P has fet queue = searchF P has fet := by unfold pickF; rw [hs]; rfl
  rw [hpk]
  unfold searchF
  rw [hse, e1]
  refine ⟨fun h => ?_, fun h hne => ?_, fun h he b2 h2 => ?_⟩
  · rw [if_neg (by omega)]
  · rw [if_pos h]
    show copyR _ _ _ = none
    unfold copyR
    rw [if_neg hne]
  · rw [if_pos h]
    show copyR _ _ _ = _
    unfold copyR
    rw [if_pos he, h2.found v (v.c2 he has fet)]
    rfl
theorem share_none {P : Pk} (has fet : List Int) (queue : Int) (hq : 1 ≤ P.que) (hsh : ¬ (fet.length : Int) * P.que < ((P.st.length : Int) - P.ver) * queue) : pickF P has fet queue = none := by
  have hs : shareF P fet.length queue = true := by
    unfold shareF
    rw [decide_eq_true_iff, share_iff _ _ _ hq]
    exact hsh
  unfold pickF
  rw [hs]
  rfl
end Go.Proofs.Qxb6602173a
