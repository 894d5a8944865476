import Derived.Test.Qxb6602173aPlain5
import Derived.Test.Qxb6602173aApp
namespace Go.Proofs.Qxb6602173a
set_option linter.unusedVariables false
set_option linter.unusedSimpArgs false

/-- How long wantOrder is ahead of bucket m. -/
def posV (P : Pk) (h m : Nat) : Nat := if m ≤ h then lowF P.held P.ord (-1) m else lowF P.held P.ord (-1) m - 1

section
variable {P : Pk} {x : Int} {q h : Nat}
theorem Vf.own_lt (f : Vf P x q h) : lowF P.held P.ord (-1) h < lowF P.held P.ord (-1) (h + 1) := by
  have a := (f.v.below f.hq (h + 1)).1 (by rw [f.hh]; omega)
  have b : ¬ q < lowF P.held P.ord (-1) h := by
    rw [← f.v.below f.hq h, f.hh]; omega
  omega
theorem Vf.lo_step (f : Vf P x q h) (hmv : Mv P x h) {m p : Nat} {y : Int} (hm : m < h) (hp : p < lowF P.held P.ord (-1) (m + 1)) (hy : P.ord[p]? = some y) : (verifyF P x).ord[p]? = some y := by
  have h1 := lowF_mono' P.held P.ord (m + 1) (h - (m + 1))
  rw [show m + 1 + (h - (m + 1)) = h by omega] at h1
  have h2 := f.own_lt
  have hne : y ≠ x := by
    intro e
    subst e
    have := (f.v.below hy (m + 1)).2 hp
    rw [f.hh] at this
    omega
  rw [f.own hmv (by omega) hy, if_neg hne]
theorem Vf.len (f : Vf P x q h) (hmv : Mv P x h) : (verifyF P x).ord.length = P.ord.length - 1 := by
  rw [f.ord hmv, List.length_take, tr_len]; omega
theorem posV_low {m : Nat} (hm : m ≤ h) : posV P h m = lowF P.held P.ord (-1) m := if_pos hm
theorem posV_high {m : Nat} (hm : h < m) : posV P h m = lowF P.held P.ord (-1) m - 1 := if_neg (by omega)
end
theorem ver_inF {P : Pk} {x : Int} (ok : VerOk P x) {y : Int} (hy : y ∈ (verifyF P x).ord) : 0 ≤ y ∧ y < P.st.length := by
  obtain ⟨P3, e, hi, hx, hl, h0, ha, _⟩ := verEnd ok
  rw [e] at hy
  have := hi.inn y (List.mem_of_mem_take hy)
  rw [ha] at this
  exact this
theorem starts_in5 {P : Pk} {x : Int} (v : Valid P) : ∀ j ∈ P.ord, j ≠ x → 0 ≤ j ∧ j < P.held.length ∧ 0 ≤ heldAt P.held j ∧ heldAt P.held j < P.starts.length := by
  intro j hj _
  obtain ⟨q, hq⟩ := List.getElem?_of_mem hj
  have ok := v.ords q j hq
  exact ⟨ok.j0, by rw [v.held]; exact ok.j1, ok.h0, ok.h1⟩
end Go.Proofs.Qxb6602173a
