import Derived.Test.Qxb6600760aBase
namespace Go.Proofs.Qxb6600760a
open Go.RowKit
open Go.Maps (Keyed)
set_option linter.unusedVariables false
set_option linter.unusedSimpArgs false

/-- A number of the kind uint64. -/
def Wf (x : Int) : Prop := 0 ≤ x ∧ x ≤ 18446744073709551615
/-- An element reads as itself. -/
def self (v : Value) : Option (DataW Value × List MemPlace) := some (.held v, [])
/-- Block b is a map, keyed by numbers, of at most N entries: at x it holds f x. -/
def MapIs (w : World) (b N : Nat) (f : Int → Option Value) : Prop :=
  ∃ D, w.ownsMap Try.prog 37 self b N D ∧ ∀ x, Wf x → ∀ zd, D.atKey (.int .u64 x) zd = ((f x).map DataW.held).getD zd
theorem keyed : Keyed Try.prog 37 := Maps.int_keyed Try.underlying37
theorem keyOf_wf {x : Int} (h : Wf x) : keyOf Try.prog 37 (.int .u64 x) = some (.int .u64 x) := Maps.keyOf_int_mk Try.underlying37 (WalkArith.wf_u64 h)
theorem MapIs.lt {w : World} {b N : Nat} {f : Int → Option Value} (h : MapIs w b N f) : b < w.heap.size := h.choose_spec.1.lt
theorem MapIs.made (w : World) : MapIs (w.alloc (.map #[] 0)) w.heap.size 0 (fun _ => none) :=
  ⟨_, World.ownsMap_made w _ _ _, fun x _ zd => by simp [DataW.atKey]⟩
theorem MapIs.mono {w : World} {b N N' : Nat} {f : Int → Option Value} (h : MapIs w b N f) (hN : N ≤ N') : MapIs w b N' f := by
  obtain ⟨D, h, hf⟩ := h
  exact ⟨D, h.mono hN, hf⟩
theorem MapIs.fr {F : Nat → Prop} {w w' : World} {b N : Nat} {f : Int → Option Value} (h : MapIs w b N f) (hf : Fr F w w') (hF : ¬ F b) : MapIs w' b N f := by
  obtain ⟨D, ⟨es, clock, hb, F', hs, hD⟩, hfx⟩ := h
  exact ⟨D, ⟨es, clock, by rw [hf.block b (heap_lt hb) hF]; exact hb, F', hs, hD⟩, hfx⟩
theorem MapIs.drewN {w : World} {b N : Nat} {f : Int → Option Value} (h : MapIs w b N f) (q : Nat) : MapIs (w.drewN q) b N f := h.fr (F := fun _ => False) (Fr.drewN _ w q) id
theorem MapIs.at_key {w : World} {b N : Nat} {f : Int → Option Value} {D : DataW Value} (hf : ∀ x, Wf x → ∀ zd, D.atKey (.int .u64 x) zd = ((f x).map DataW.held).getD zd) {x : Int} (hx : Wf x) (z : Value) :
    D.atKey (.int .u64 x) (.held z) = .held ((f x).getD z) := by
  rw [hf x hx]
  cases f x <;> rfl
theorem MapIs.has_key {f : Int → Option Value} {D : DataW Value} (hf : ∀ x, Wf x → ∀ zd, D.atKey (.int .u64 x) zd = ((f x).map DataW.held).getD zd) {x : Int} (hx : Wf x) : Maps.has D (.int .u64 x) = (f x).isSome := by
  cases h : f x with
  | none => exact Maps.has_false_of_atKey fun z => by rw [hf x hx, h]; rfl
  | some v => exact Maps.has_true_of_atKey (y := .held v) fun z => by rw [hf x hx, h]; rfl
theorem MapIs.look {w : World} {b N : Nat} {f : Int → Option Value} (h : MapIs w b N f) {t e : TypeId} (ht : Try.prog.underlying t = some (.map 37 e)) {z : Value} (hz : (zeroValue e).run Try.prog w = .ok z w) {x : Int} (hx : Wf x) :
    (Instr.lookup t (.map (some b)) (.int .u64 x) false).run Try.prog w = .ok ((f x).getD z) w := by
  obtain ⟨D, h, hf⟩ := h
  obtain ⟨v, ps, hr, hv⟩ := h.lookup keyed ht hz (zd := .held z) (zp := []) rfl (keyOf_wf hx)
  rw [MapIs.at_key (w := w) (b := b) (N := N) hf hx] at hv
  simp [self] at hv
  rw [hr, hv.1]
theorem MapIs.look_ok {w : World} {b N : Nat} {f : Int → Option Value} (h : MapIs w b N f) {t e : TypeId} (ht : Try.prog.underlying t = some (.map 37 e)) {z : Value} (hz : (zeroValue e).run Try.prog w = .ok z w) {x : Int} (hx : Wf x) :
    (Instr.lookup t (.map (some b)) (.int .u64 x) true).run Try.prog w = .ok (.tuple #[(f x).getD z, .bool (f x).isSome]) w := by
  obtain ⟨D, h, hf⟩ := h
  obtain ⟨v, ps, hr, hv⟩ := h.look_ok keyed ht hz (zd := .held z) (zp := []) rfl (keyOf_wf hx)
  rw [MapIs.at_key (w := w) (b := b) (N := N) hf hx] at hv
  simp [self] at hv
  rw [hr, hv.1, MapIs.has_key hf hx]
def upd {α : Type} (f : Int → α) (x : Int) (v : α) (y : Int) : α := if y = x then v else f y
theorem upd_same {α : Type} (f : Int → α) (x : Int) (v : α) : upd f x v x = v := if_pos rfl
theorem upd_other {α : Type} (f : Int → α) {x y : Int} (v : α) (h : ¬ y = x) : upd f x v y = f y := if_neg h
theorem fr_grown {w w' : World} {b : Nat} (h : w.grownBy w' (some b)) : Fr (fun k => k = b) w w' :=
  have k := (Below.refl 0 w).grown h (Nat.zero_le _) (fun j hj => Nat.zero_le _)
  ⟨k.os, k.tape, k.output, k.size, fun i hi hF => h.block i hi (fun e => hF (Option.some.inj e))⟩
theorem lit_ne {x y : Int} (h : ¬ y = x) : (Lit.int .u64 y) ≠ .int .u64 x := fun e => h (by injection e)
theorem MapIs.put {w : World} {b N : Nat} {f : Int → Option Value} (h : MapIs w b N f) {t e : TypeId} (ht : Try.prog.underlying t = some (.map 37 e)) (hN : N ≤ 1000) {x : Int} (hx : Wf x) (v : Value) :
    ∃ w', (Instr.mapUpdate t (.map (some b)) (.int .u64 x) v).run Try.prog w = .ok () w' ∧ MapIs w' b (N + 1) (upd f x (some v)) ∧ Fr (fun k => k = b) w w' := by
  obtain ⟨D, h, hf⟩ := h
  obtain ⟨w', hr, ho, hg⟩ := h.update keyed ht (by unfold maxLen; omega) (val := v) (d := .held v) (ps := []) (keyOf_wf hx) rfl
  refine ⟨w', hr, ⟨_, ho, fun y hy zd => ?_⟩, fr_grown hg⟩
  by_cases e : y = x
  · subst e
    rw [upd_same, Maps.atKey_put_same h.isMap (keyed.key (keyOf_wf hx))]
    rfl
  · rw [upd_other _ _ e, Maps.atKey_put_other (lit_ne e), hf y hy]
theorem MapIs.del {w : World} {b N : Nat} {f : Int → Option Value} (h : MapIs w b N f) {t e : TypeId} (ht : Try.prog.underlying t = some (.map 37 e)) {x : Int} (hx : Wf x) (ty : TypeId) :
    ∃ w', (Builtin.delete_ #[t, 37] ty #[.map (some b), .int .u64 x]).run Try.prog w = .ok (.tuple #[]) w' ∧ MapIs w' b N (upd f x none) ∧ Fr (fun k => k = b) w w' := by
  obtain ⟨D, h, hf⟩ := h
  obtain ⟨w', hr, ho, hg⟩ := h.drop keyed ht (keyOf_wf hx) ty
  refine ⟨w', hr, ⟨_, ho, fun y hy zd => ?_⟩, fr_grown hg.grown⟩
  by_cases e : y = x
  · subst e
    rw [upd_same, Maps.atKey_del_same]
    rfl
  · rw [upd_other _ _ e, Maps.atKey_del_other (lit_ne e), hf y hy]
end Go.Proofs.Qxb6600760a
