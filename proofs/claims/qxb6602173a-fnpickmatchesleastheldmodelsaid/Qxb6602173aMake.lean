import Derived.Test.Qxb6602173aPm
import Derived.Test.Qxb6602173aClone
namespace Go.Proofs.Qxb6602173a
open Go.RowKit
set_option linter.unusedVariables false
set_option linter.unusedSimpArgs false

/-- A row of the call's own that is filled from its head: k of n are done. -/
def Fill (w : World) (g : Nat) (e : TypeId) (n : Nat) (vs : List Value) (z : Value) (k : Nat) : Prop :=
  w.heap[g]? = some (.cells (vs.take k ++ List.replicate (n - k) z).toArray e (0, 0))
theorem Fill.start {w : World} {g : Nat} {e : TypeId} {n : Nat} {vs : List Value} {z : Value} (h : w.heap[g]? = some (.cells (List.replicate n z).toArray e (0, 0))) : Fill w g e n vs z 0 := by
  unfold Fill; simpa using h
theorem Fill.cell {w : World} {g : Nat} {e : TypeId} {n : Nat} {vs : List Value} {z : Value} {k : Nat} (h : Fill w g e n vs z k) (hl : vs.length = n) (hk : k < n) : w.cell? ⟨g, k, none⟩ = some z ∧ w.frozen? ⟨g, k, none⟩ = false := by
  unfold Fill at h
  constructor
  · simp only [World.cell?, h]
    simp
    rw [List.getElem?_append_right (by simp; omega), List.getElem?_replicate, if_pos (by simp; omega)]
  · simp [World.frozen?, h]
theorem Fill.step {w : World} {g : Nat} {e : TypeId} {n : Nat} {vs : List Value} {z : Value} {k : Nat} {x : Value} (h : Fill w g e n vs z k) (hl : vs.length = n) (hk : k < n) (hx : vs[k]? = some x) : Fill (w.setCell ⟨g, k, none⟩ x) g e n vs z (k + 1) := by
  unfold Fill at h ⊢
  rw [heap_setCell_at h]
  congr 2
  simp
  rw [List.set_append_right _ _ (by simp; omega)]
  have e1 : k - (vs.take k).length = 0 := by simp; omega
  have e2 : n - k = (n - (k + 1)) + 1 := by omega
  rw [e1, e2, List.replicate_succ, List.set_cons_zero, take_succ_of hx]
  simp
theorem Fill.done {w : World} {g : Nat} {e : TypeId} {n : Nat} {vs : List Value} {z : Value} {k : Nat} (h : Fill w g e n vs z k) (hl : vs.length = n) (hk : ¬ k < n) : w.heap[g]? = some (.cells vs.toArray e (0, 0)) := by
  unfold Fill at h
  rw [h, List.take_of_length_le (by omega), show n - k = 0 by omega]
  simp

set_option maxHeartbeats 400000 in
theorem make_any (aS aC aH aO aA aT : Option Addr) (n cS nC cC nH cH nO cO nA cA nT cT : Nat) (ver act que : Int) (st : List Int) (w : World) (hS : Rd w aS n (u8s st)) :
    Calls Try.prog 15 #[.slice aS n cS, .int .i64 ver, .int .i64 act, .slice aC nC cC, .int .i64 que, .slice aH nH cH, .slice aO nO cO, .slice aA nA cA, .slice aT nT cT] w fun e w' =>
      ∃ pb, e = .returned (.pointer (some ⟨pb, 0, none⟩)) ∧ Bx w' pb (.slice (some ⟨w.heap.size, 0, none⟩) n n) ver act (.slice aC nC cC) que (.slice aH nH cH) (.slice aO nO cO) (.slice aA nA cA) (.slice aT nT cT) ∧
        w'.heap[w.heap.size]? = some (.cells (u8s st).toArray 51 (0, 0)) ∧ Below w.heap.size w w' ∧ w.heap.size ≤ pb := by
  have hsm := hS.small
  have HL : Hid ((u8s st).length = n) := hS.len
  have H : Hid (Rd w aS n (u8s st)) := hS
  clear hS
  obtain ⟨i0, hi, hz0, hz1, hz2⟩ := info_parts Try.info51
  go_enter Try.func15, Try.ntmps15
  go_wp2_with (first | (at_make; refine wpList_make_full _ rfl _ _ 50 rfl w.heap.size 51 i0 (.int .u8 0) 1 Try.underlying50 hi hz0 hz1 .i64 .i64 n n n rfl rfl rfl rfl (by rw [hz2]; omega) (by unfold maxLen; omega) (Nat.le_refl _) ?_; intro w1 ho hg; have hbk := made_block (by rfl) ho; have hbel := below_grown hg; clear ho hg))
  go_loopw [26] (fun i wr => ∃ k : Nat, k ≤ n ∧ i = .int .i64 k ∧ Hid (Fill wr w.heap.size 51 n (u8s st) (.int .u8 0) k) ∧ Hid (Below w.heap.size w wr)) (fun i _ => n - (intOf i).toNat)
  case atStart => exact ⟨0, Nat.zero_le _, rfl, Fill.start hbk, hbel⟩
  case round =>
    obtain ⟨k, hk, rfl, HF, HB⟩ := hrel
    clear hbk hbel
    by_cases hlt : k < n
    · obtain ⟨b, o, x, rfl, e1, g1⟩ := (H.out.below HB.out).u8 hlt
      obtain ⟨hc, hf⟩ := HF.out.cell HL.out hlt
      have E1 : Hid ((u8s st)[k]? = some (.int .u8 x)) := by show _ = _; rw [u8s, List.getElem?_map, e1]; rfl
      clear e1
      go_wp2
      go_roundw
      case rel => exact ⟨k + 1, by omega, by go_num, HF.out.step HL.out hlt E1.out, HB.out.setCell (Nat.le_refl _) _⟩
      case measure => simp [intOf]; omega
    · go_wp2
      go_ret
      refine ⟨_, rfl, ?_, ?_, HB.out.alloc HB.out.size _, HB.out.size⟩
      · unfold Bx
        exact heap_alloc_new _ _
      · rw [Below.heap_alloc _ _ _ (heap_lt (HF.out.done HL.out (by omega)))]
        exact HF.out.done HL.out (by omega)
end Go.Proofs.Qxb6602173a
