/-
  What came in, read as the walks want it.
-/
import Derived.Test.Qxb6602173aRows
import Derived.Test.Qxb6602173aZz
import Derived.WalkKit
import Derived.ProofKit
import Derived.OpenShut
import Derived.ShutString
import Derived.ChangeOld
import Derived.Below
import Derived.Deep.Grids
namespace Go.Proofs.Qxb6602173a
open Go.ChangeShapes Go.WideShapes Go.ChangeAt Go.RowKit
set_option linter.unusedVariables false
set_option linter.unusedSimpArgs false

theorem own : ownKnob Try.prog.godebug = none := by kernel_rfl
theorem laidOut : laidOutB Try.prog = true := by kernel_rfl

theorem spot_none {W : World} {x : Addr} {i : Nat} {v : Value} (h0 : W.cell? (x.add 0) = some v) : x = ⟨x.block, x.off, none⟩ := by
  have := World.cell?_spot h0
  obtain ⟨b, o, s⟩ := x
  simp [Addr.add] at this
  subst this
  rfl
theorem add_none (b o i : Nat) : (⟨b, o, none⟩ : Addr).add i = ⟨b, o + i, none⟩ := by
  simp only [Addr.add]
  split
  · rename_i h; subst h; rfl
  · rfl

theorem row_of {W : World} {x : Addr} {len cap : Nat} {vs : List Value} (hl : len ≤ cap) (hm : cap ≤ maxLen) (hz : vs.length = cap) (hc : ∀ i u, vs[i]? = some u → W.cell? (x.add i) = some u) : Rd0 W (some x) len (vs.take len) := by
  unfold maxLen at hm
  refine ⟨by rw [List.length_take]; omega, by omega, fun i hi => ?_⟩
  have h0 := hc 0 _ (List.getElem?_eq_getElem (by omega : 0 < vs.length))
  have e := spot_none (i := 0) h0
  have hi' := hc i _ (List.getElem?_eq_getElem (by omega : i < vs.length))
  rw [e, add_none] at hi'
  refine ⟨x.block, x.off, vs[i], by rw [← e], ?_, hi'⟩
  rw [List.getElem?_take, if_pos hi, List.getElem?_eq_getElem]

theorem row_ints {H : Type} {enc : TypeId × Value → H} {W : World} {a : Option Addr} {len cap fuel : Nat} {t e : TypeId} {k : IntKind} {x : DataW H × List MemPlace} (ht : Try.prog.underlying t = some (.slice e)) (he : Try.prog.underlying e = some (.int k)) (hc : Try.prog.cellsOf e = 1)
    (hf : DataW.trod enc Try.prog W 0 (fun _ => true) true fuel t (Value.cells (.slice a len cap)).toList = some x) : ∃ zs : List Int, len = zs.length ∧ Rd0 W a len (zs.map (Value.int k)) := by
  rcases open_ints ht he hc hf with ⟨hcs, _⟩ | ⟨y, l, c, zs, hcs, _, hl, hm, hz, _, hcell, hwz⟩
  · simp [Value.cells] at hcs
    obtain ⟨rfl, rfl, rfl⟩ := hcs
    exact ⟨[], rfl, rfl, Nat.zero_le _, fun i hi => absurd hi (Nat.not_lt_zero i)⟩
  · simp [Value.cells] at hcs
    obtain ⟨rfl, rfl, rfl⟩ := hcs
    simp only [if_true] at hz
    refine ⟨zs.take len, by rw [List.length_take]; omega, ?_⟩
    have := row_of (W := W) (x := y) (len := len) (vs := zs.map (Value.int k)) hl hm (by simpa using hz) (fun i u hu => by
      rw [List.getElem?_map, Option.map_eq_some_iff] at hu
      obtain ⟨z, hz1, rfl⟩ := hu
      have hi : i < zs.length := (List.getElem?_eq_some_iff.1 hz1).1
      rw [hcell i hi, List.getD, hz1]; rfl)
    rwa [List.map_take] 
theorem row_bools {H : Type} {enc : TypeId × Value → H} {W : World} {a : Option Addr} {len cap fuel : Nat} {t e : TypeId} {x : DataW H × List MemPlace} (ht : Try.prog.underlying t = some (.slice e)) (he : Try.prog.underlying e = some .bool) (hc : Try.prog.cellsOf e = 1)
    (hf : DataW.trod enc Try.prog W 0 (fun _ => true) true fuel t (Value.cells (.slice a len cap)).toList = some x) : ∃ zs : List Bool, len = zs.length ∧ Rd0 W a len (bools zs) := by
  rcases Go.Deep.open_bools ht he hc hf with ⟨hcs, _⟩ | ⟨y, l, c, B, hcs, _, hl, hm, _, hcell⟩
  · simp [Value.cells] at hcs
    obtain ⟨rfl, rfl, rfl⟩ := hcs
    exact ⟨[], rfl, rfl, Nat.zero_le _, fun i hi => absurd hi (Nat.not_lt_zero i)⟩
  · simp [Value.cells] at hcs
    obtain ⟨rfl, rfl, rfl⟩ := hcs
    refine ⟨((List.range cap).map B).take len, by rw [List.length_take]; simp; omega, ?_⟩
    have := row_of (W := W) (x := y) (len := len) (vs := bools ((List.range cap).map B)) hl hm (by simp [bools]) (fun i u hu => by
      rw [bools, List.getElem?_map, List.getElem?_map, Option.map_eq_some_iff] at hu
      obtain ⟨z, hz1, rfl⟩ := hu
      rw [Option.map_eq_some_iff] at hz1
      obtain ⟨j, hj, rfl⟩ := hz1
      obtain ⟨hi, hj⟩ := List.getElem?_eq_some_iff.1 hj
      simp at hi hj
      subst hj
      exact hcell i hi)
    rwa [bools, ← List.map_take] at this
end Go.Proofs.Qxb6602173a
