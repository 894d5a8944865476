import Derived.Test.Qxb6600760aRows
import Derived.Test.Qxb6600760aLaw
import Derived.WalkKit
import Derived.ProofKit
import Derived.OpenShut
import Derived.ShutString
import Derived.ChangeOld
import Derived.Below
import Derived.Deep.SlicePairs
namespace Go.Proofs.Qxb6600760a
open Go.ChangeShapes Go.WideShapes Go.ChangeAt Go.RowKit
set_option linter.unusedVariables false
set_option linter.unusedSimpArgs false

theorem own : ownKnob Try.prog.godebug = none := by kernel_rfl
theorem laidOut : laidOutB Try.prog = true := by kernel_rfl
theorem spot_none {W : World} {x : Addr} {v : Value} (h0 : W.cell? (x.add 0) = some v) : x = ⟨x.block, x.off, none⟩ := by
  have := World.cell?_spot h0
  obtain ⟨b, o, s⟩ := x
  simp [Addr.add] at this
  subst this
  rfl
theorem add_none (b o i : Nat) : (⟨b, o, none⟩ : Addr).add i = ⟨b, o + i, none⟩ := by
  simp only [Addr.add]
  split
  · rename_i h; subst h; rfl
  · rfl
theorem row_pairs {H : Type} {enc : TypeId × Value → H} {W : World} {a : Option Addr} {len cap fuel : Nat} {x : DataW H × List MemPlace}
    (hf : DataW.trod enc Try.prog W 0 (fun _ => true) true fuel 22 (Value.cells (.slice a len cap)).toList = some x) : ∃ ss : List (Int × Int), len = ss.length ∧ RdS0 W a len ss := by
  rcases Go.Deep.open_slice_pairs Try.underlying22 Try.underlying51 (by kernel_rfl) rfl rfl (by kernel_rfl) (by kernel_rfl) hf with ⟨hcs, _⟩ | ⟨y, l, c, m, n, V0, V1, D0, D1, P0, P1, hcs, _, hl, hm, hmm, _, hcell⟩
  · simp [Value.cells] at hcs
    obtain ⟨rfl, rfl, rfl⟩ := hcs
    exact ⟨[], rfl, rfl, Nat.zero_le _, fun i hi => absurd hi (Nat.not_lt_zero i)⟩
  · simp [Value.cells] at hcs
    obtain ⟨rfl, rfl, rfl⟩ := hcs
    simp only [if_true] at hmm
    unfold maxLen at hm
    have each : ∀ i, i < len → ∃ p : Int × Int, W.cell? (y.add (i * 2)) = some (.int .u64 p.1) ∧ W.cell? (y.add (i * 2 + 1)) = some (.int .u64 p.2) := by
      intro i hi
      obtain ⟨h1, h2, t1, t2⟩ := hcell i (by omega)
      obtain ⟨z1, e1, _⟩ := DataW.trod_int Try.underlying31 t1
      obtain ⟨z2, e2, _⟩ := DataW.trod_int Try.underlying31 t2
      simp at e1 e2
      exact ⟨(z1, z2), by rw [h1, e1], by rw [h2, e2]⟩
    obtain ⟨f, hf2⟩ : ∃ f : Nat → Int × Int, ∀ i, i < len → W.cell? (y.add (i * 2)) = some (.int .u64 (f i).1) ∧ W.cell? (y.add (i * 2 + 1)) = some (.int .u64 (f i).2) := by
      refine ⟨fun i => if h : i < len then (each i h).choose else (0, 0), fun i hi => ?_⟩
      simp only [dif_pos hi]
      exact (each i hi).choose_spec
    refine ⟨(List.range len).map f, by simp, by simp, by omega, fun i hi => ?_⟩
    have h0 := (hf2 0 (by omega)).1
    have e := spot_none h0
    obtain ⟨h1, h2⟩ := hf2 i hi
    rw [e, add_none] at h1 h2
    exact ⟨y.block, y.off, f i, by rw [← e], by simp [hi], h1, by rw [Nat.add_assoc]; exact h2⟩
end Go.Proofs.Qxb6600760a
