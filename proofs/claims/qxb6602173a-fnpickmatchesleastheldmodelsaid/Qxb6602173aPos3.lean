import Derived.Test.Qxb6602173aPlain3
import Derived.Test.Qxb6602173aApp
namespace Go.Proofs.Qxb6602173a
open Go.RowKit
set_option linter.unusedVariables false
set_option linter.unusedSimpArgs false

def inL (n : Nat) (l : List Int) : List Bool := (List.range n).map fun (i : Nat) => inB l (i : Int)
theorem inL_len (n : Nat) (l : List Int) : (inL n l).length = n := by simp [inL]
theorem inL_zero (n : Nat) (l : List Int) : bools (inL n (l.take 0)) = List.replicate n (.bool false) := by
  apply List.ext_getElem (by simp [bools, inL])
  intro i h1 h2
  simp [bools, inL, inB]
theorem inL_get {n : Nat} {l : List Int} {i : Nat} (h : i < n) : (inL n l)[i]? = some (inB l (i : Int)) := by simp [inL, h]
theorem inL_skip {n : Nat} {l : List Int} {k : Nat} {x : Int} (hx : l[k]? = some x) (ho : x < 0 ∨ (n : Int) ≤ x) : inL n (l.take (k + 1)) = inL n (l.take k) := by
  rw [take_succ_of hx]
  unfold inL
  apply List.map_congr_left
  intro i hi
  rw [List.mem_range] at hi
  rw [Bool.eq_iff_iff, inB_iff, inB_iff, List.mem_append]
  constructor
  · rintro (h | h)
    · exact h
    · simp at h; omega
  · exact fun h => .inl h
theorem inL_set {n : Nat} {l : List Int} {k : Nat} {x : Int} (hx : l[k]? = some x) (h0 : 0 ≤ x) (h1 : x < n) : inL n (l.take (k + 1)) = (inL n (l.take k)).set x.toNat true := by
  apply List.ext_getElem?
  intro i
  rw [List.getElem?_set]
  by_cases hi : i < n
  · rw [inL_get hi, inL_get hi, inL_len, take_succ_of hx]
    by_cases e : x.toNat = i
    · rw [if_pos e, if_pos (by omega)]
      congr 1
      rw [inB_iff, List.mem_append]
      right; simp; omega
    · rw [if_neg e]
      congr 1
      rw [Bool.eq_iff_iff, inB_iff, inB_iff, List.mem_append]
      simp; intro h; omega
  · rw [List.getElem?_eq_none (by rw [inL_len]; omega), List.getElem?_eq_none (by rw [inL_len]; omega), if_neg (by omega)]
theorem c1_val {P : Pk} {has : List Int} {j : Nat} {y hv : Int} {bt : Bool} (hy : P.st[j]? = some y) (hh : P.held[j]? = some hv) (hb : hasB has (j : Int) = bt) : c1F P has j = ((y == 0) && decide (1 ≤ hv) && bt) := by
  unfold c1F
  rw [getD_of hy, show heldAt P.held (j : Int) = hv from by unfold heldAt; rw [Int.toNat_natCast]; exact getD_of hh, hb]
theorem c2_val {P : Pk} {has fet : List Int} {j : Nat} {y hv : Int} {sb bt ib : Bool} (hy : P.st[j]? = some y) (hh : P.held[j]? = some hv) (hs : P.sec[j]? = some sb) (hb : hasB has (j : Int) = bt) (hi : inB fet (j : Int) = ib) : c2F P has fet j = ((y == 1) && decide (1 ≤ hv) && !sb && bt && !ib) := by
  unfold c2F
  rw [getD_of hy, show heldAt P.held (j : Int) = hv from by unfold heldAt; rw [Int.toNat_natCast]; exact getD_of hh, getD_of hs, hb, hi]
theorem pkHas_eq (x : Int) (aB : Option Addr) (nb cB : Nat) (has : List Int) (w : World) (hx0 : 0 ≤ x) (hx1 : x < 8 * nb) (hB : Rd w aB nb (u8s has)) :
    Calls Try.prog 17 #[.slice aB nb cB, .int .i64 x] w fun e w' => e = .returned (.bool (hasB has x)) ∧ w' = w := by
  have hs := hB.small
  obtain ⟨b, o, y, rfl, e1, g1⟩ := hB.u8 (i := (x / 8).toNat) (by omega)
  have E1 := hdg e1
  clear e1 hB
  have hq0 : 0 ≤ x / 8 := by omega
  have hq1 : x / 8 < (nb : Int) := by omega
  have hr0 : 0 ≤ x % 8 := by omega
  have hr1 : x % 8 < 8 := by omega
  go_enter Try.func17, Try.ntmps17
  go_wp2
  go_ret
  exact ⟨ret_bool (by unfold hasB; rw [List.getD, E1.out]; rfl), rfl⟩
end Go.Proofs.Qxb6602173a
