import Derived.Test.Qxb6602173aSame
import Derived.Test.Qxb6602173aGlue
import Derived.Test.Qxb6602173aBkt
namespace Go.Proofs.Qxb6602173a
open Go.RowKit
set_option linter.unusedVariables false
set_option linter.unusedSimpArgs false

theorem one_single (y : Int) : ∀ u ∈ [Value.int .i64 y], u.oneCell' = true := by
  intro u hu
  simp at hu
  subst hu
  rfl
theorem app_own {w : World} {BW g p l : Nat} {F : List Int} {y : Int} (ho : w.ownsRow BW 3 1 (.slice (some ⟨g, 0, none⟩) (p + 1) l) (p + 1) (ints (F.take p) ++ [.int .i64 y])) (hy : F[p]? = some y) (hp : p + 1 ≤ 16777216) :
    Own w BW 3 (some ⟨g, 0, none⟩) (p + 1) l (ints (F.take (p + 1))) := by
  obtain ⟨a, c, e, h⟩ := Own.of_row ho hp
  cases e
  rw [take_succ_of hy]
  simpa [ints] using h
theorem app_below {w w1 : World} {o : Obj} {BW g : Nat} (hg : (w.alloc o).grownBy w1 (some g)) (hB : BW ≤ w.heap.size) (hgB : BW ≤ g) : Below BW w w1 :=
  ((Below.refl BW w).alloc hB o).grown hg (by simp; omega) (fun k hk => by cases hk; exact hgB)
theorem made_own {w w1 : World} {l : Nat} (ho : w1.ownsRow w.heap.size 3 1 (.slice (some ⟨w.heap.size, 0, none⟩) 0 l) 0 []) : Own w1 w.heap.size 3 (some ⟨w.heap.size, 0, none⟩) 0 l (ints (([] : List Int).take 0)) := by
  obtain ⟨a, c, e, h⟩ := Own.of_row ho (Nat.zero_le _)
  cases e
  exact h
theorem Own.take0 {w : World} {B g l : Nat} (h : Own w B 3 (some ⟨g, 0, none⟩) 0 l (ints (([] : List Int).take 0))) (F : List Int) : Own w B 3 (some ⟨g, 0, none⟩) 0 l (ints (F.take 0)) := h

/-- Where bucket m ends. -/
theorem Valid.ends {P : Pk} (v : Valid P) {m : Nat} (hm : m < P.starts.length) : endF P.starts P.ord.length (m : Int) = (lowF P.held P.ord (-1) (m + 1) : Int) := by
  unfold endF
  by_cases h : m + 1 < P.starts.length
  · rw [if_pos (by omega), show ((m : Int) + 1).toNat = m + 1 by omega]
    refine getD_of ?_
    conv => lhs; rw [v.starts]
    exact startsOf_get _ _ _ _ _ h
  · rw [if_neg (by omega)]
    have := v.top
    rw [show P.starts.length = m + 1 by omega] at this
    rw [this]
theorem Valid.begins {P : Pk} (v : Valid P) {m : Nat} (hm : m < P.starts.length) : P.starts[m]? = some (lowF P.held P.ord (-1) m : Int) := by
  conv => lhs; rw [v.starts]
  exact startsOf_get _ _ _ _ _ hm

/-- pkSame, where all is the same, the fields written out. -/
theorem same_of (w : World) (B pb : Nat) (D : Ad) (R : Pk) (st : List Int) (ver act : Int) (sec : List Bool) (que : Int) (held ord at_ starts : List Int) (e : R = ⟨st, ver, act, sec, que, held, ord, at_, starts⟩)
    (aS aC aH aO aA aT : Option Addr) (cS cC cH cO cA cT nS nC nH nO nA nT : Nat) (hM : PM w B pb D R)
    (hS : Rd w aS nS (u8s st)) (hC : Rd w aC nC (bools sec)) (hH : Rd w aH nH (ints held)) (hO : Rd w aO nO (ints ord)) (hA : Rd w aA nA (ints at_)) (hT : Rd w aT nT (ints starts)) :
    Calls Try.prog 18 #[.pointer (some ⟨pb, 0, none⟩), .slice aS nS cS, .int .i64 ver, .int .i64 act, .slice aC nC cC, .int .i64 que, .slice aH nH cH, .slice aO nO cO, .slice aA nA cA, .slice aT nT cT] w
      fun e w' => e = .returned (.bool true) ∧ Below w.heap.size w w' := by
  subst e
  have e1 : st.length = nS := by have := hS.len; rwa [u8s_length] at this
  have e2 : sec.length = nC := by have := hC.len; rwa [bools_length] at this
  have e3 : held.length = nH := by have := hH.len; rwa [ints_length] at this
  have e4 : ord.length = nO := by have := hO.len; rwa [ints_length] at this
  have e5 : at_.length = nA := by have := hA.len; rwa [ints_length] at this
  have e6 : starts.length = nT := by have := hT.len; rwa [ints_length] at this
  subst e1 e2 e3 e4 e5 e6
  exact same_yes w B pb D ⟨st, ver, act, sec, que, held, ord, at_, starts⟩ aS aC aH aO aA aT cS cC cH cO cA cT hM hS hC hH hO hA hT
theorem Pk.ext' {R : Pk} {st : List Int} {ver act : Int} {sec : List Bool} {que : Int} {held ord at_ starts : List Int} (h1 : R.st = st) (h2 : R.ver = ver) (h3 : R.act = act) (h4 : R.sec = sec) (h5 : R.que = que) (h6 : R.held = held) (h7 : R.ord = ord) (h8 : R.at_ = at_) (h9 : R.starts = starts) :
    R = ⟨st, ver, act, sec, que, held, ord, at_, starts⟩ := by
  subst h1 h2 h3 h4 h5 h6 h7 h8 h9
  rfl
end Go.Proofs.Qxb6602173a
