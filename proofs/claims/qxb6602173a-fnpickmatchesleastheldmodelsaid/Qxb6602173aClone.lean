import Derived.Test.Qxb6602173aBase
namespace Go.Proofs.Qxb6602173a
open Go.RowKit
set_option linter.unusedVariables false
set_option linter.unusedSimpArgs false

theorem made_block {w : World} {B g : Nat} {e : TypeId} {z : Value} {n : Nat} (hz : z.cells = #[z]) (h : w.ownsRow B e 1 (.slice (some ⟨g, 0, none⟩) n n) n (madeCells z.cells (n * 1)).toList) :
    w.heap[g]? = some (.cells (List.replicate n z).toArray e (0, 0)) := by
  obtain ⟨hl, h⟩ := h
  rcases h with ⟨h, _⟩ | ⟨g', cap, cur, hv, _, hg, _, _, hs, ht⟩
  · cases h
  · simp at hv
    obtain ⟨rfl, rfl⟩ := hv
    rw [hz] at ht
    simp only [Nat.mul_one] at ht hs
    rw [toList_madeCells_one, List.take_of_length_le (by simp [hs])] at ht
    rw [hg]
    simp [← ht]
theorem src_cells {w w1 : World} {a : Option Addr} {n : Nat} {vs : List Value} (h : Rd w a n vs) (hb : Below w.heap.size w w1) {ad : Addr} (ha : a = some ad) (d : Option Addr) :
    0 < vs.length → d = d ∧ ∃ ad', some ad = some ad' ∧ ∀ j v, vs[j]? = some v → w1.cell? (ad'.add j) = some v := by
  intro _
  refine ⟨rfl, ad, rfl, fun j v hv => ?_⟩
  have hj : j < vs.length := by
    rcases Nat.lt_or_ge j vs.length with h | h
    · exact h
    · rw [List.getElem?_eq_none h] at hv; cases hv
  obtain ⟨b, off, x, e, hx, hc⟩ := (h.below hb).2.2 j (by rw [← h.1]; exact hj)
  rw [ha] at e
  cases e
  rw [hx] at hv
  cases hv
  exact (by simp only [Addr.add]; split <;> simp_all : w1.cell? ((⟨b, off, none⟩ : Addr).add j) = w1.cell? ⟨b, off + j, none⟩).trans hc
theorem splice_all {α : Type} (L cs : List α) (h : L.length = cs.length) : splice L 0 cs = cs := by simp [splice, ← h]
theorem Own.fresh {w : World} {B g : Nat} {e : TypeId} {n : Nat} {vs : List Value} (hg : w.heap[g]? = some (.cells vs.toArray e (0, 0))) (hB : B ≤ g) (hn : vs.length = n) (hs : n ≤ 16777216) : Own w B e (some ⟨g, 0, none⟩) n n vs :=
  ⟨hn, Nat.le_refl _, by unfold maxLen; omega, hs, .inr ⟨g, [], rfl, hB, by simpa using hg, by simpa using hn⟩⟩
theorem below_grown {w w1 : World} (h : w.grownBy w1 none) : Below w.heap.size w w1 := (Below.refl _ w).grown h (Nat.le_refl _) (fun k hk => by cases hk)
theorem grown_size {w w1 : World} {B e g n : Nat} {vs : List Value} (h : w1.heap[g]? = some (.cells vs.toArray e (0, 0))) : g < w1.heap.size := heap_lt h

set_option maxHeartbeats 400000 in
theorem cloneInts_any (a : Option Addr) (n c : Nat) (z : List Int) (w : World) (h : Rd w a n (ints z)) :
    Calls Try.prog 14 #[.slice a n c] w fun e w' => ∃ a' c', e = .returned (.slice a' n c') ∧ Own w' w.heap.size 3 a' n c' (ints z) ∧ Below w.heap.size w w' := by
  have hsm := h.small
  have hL := h.len
  have HL : Hid ((ints z).length = n) := hL
  have H : Hid (Rd w a n (ints z)) := h
  clear hL h
  have hq := fun w => Lib.run_eql_slice_nil (P := Try.prog) w 24 3 a n c 0 0 Try.underlying24
  cases a with
  | none =>
    obtain rfl : n = 0 := H.out.nil rfl
    go_enter Try.func14, Try.ntmps14
    go_wp2
    go_ret
    exact ⟨none, 0, rfl, ⟨HL.out, Nat.le_refl _, Nat.zero_le _, Nat.zero_le _, .inl ⟨rfl, rfl⟩⟩, Below.refl _ _⟩
  | some ad =>
    obtain ⟨i0, hi, hz0, hz1, hz2⟩ := info_parts Try.info3
    go_enter Try.func14, Try.ntmps14
    go_wp2_with (first | (at_make; refine wpList_make_full _ rfl _ _ 24 rfl w.heap.size 3 i0 (.int .i64 0) 1 Try.underlying24 hi hz0 hz1 .i64 .i64 n n n rfl rfl rfl rfl (by rw [hz2]; omega) (by unfold maxLen; omega) (Nat.le_refl _) ?_; intro w1 ho hg; have hbk := made_block (by rfl) ho; have hbel := below_grown hg; clear ho hg) | (refine wpList_copy_splice rfl _ _ 24 24 rfl 3 Try.underlying24 Try.size3 _ _ n n n c rfl rfl w.heap.size 0 (List.replicate n (.int .i64 0)) 3 hbk (ints z) (by rw [HL.out]; simp) (src_cells H.out hbel rfl _) (by rw [HL.out]; simp) (one_ints z) w.heap.size w hbel (Nat.le_refl _) ?_; intro w2 hbk2 hbel2; clear hbk hbel))

    go_ret
    have hk := hbk2.out
    rw [splice_all _ _ (by rw [HL.out]; simp)] at hk
    exact ⟨_, _, rfl, Own.fresh hk (Nat.le_refl _) HL.out hsm, hbel2⟩

set_option maxHeartbeats 400000 in
theorem cloneBools_any (a : Option Addr) (n c : Nat) (z : List Bool) (w : World) (h : Rd w a n (bools z)) :
    Calls Try.prog 13 #[.slice a n c] w fun e w' => ∃ a' c', e = .returned (.slice a' n c') ∧ Own w' w.heap.size 4 a' n c' (bools z) ∧ Below w.heap.size w w' := by
  have hsm := h.small
  have hL := h.len
  have HL : Hid ((bools z).length = n) := hL
  have H : Hid (Rd w a n (bools z)) := h
  clear hL h
  have hq := fun w => Lib.run_eql_slice_nil (P := Try.prog) w 23 4 a n c 0 0 Try.underlying23
  cases a with
  | none =>
    obtain rfl : n = 0 := H.out.nil rfl
    go_enter Try.func13, Try.ntmps13
    go_wp2
    go_ret
    exact ⟨none, 0, rfl, ⟨HL.out, Nat.le_refl _, Nat.zero_le _, Nat.zero_le _, .inl ⟨rfl, rfl⟩⟩, Below.refl _ _⟩
  | some ad =>
    obtain ⟨i0, hi, hz0, hz1, hz2⟩ := info_parts Try.info4
    go_enter Try.func13, Try.ntmps13
    go_wp2_with (first | (at_make; refine wpList_make_full _ rfl _ _ 23 rfl w.heap.size 4 i0 (.bool false) 1 Try.underlying23 hi hz0 hz1 .i64 .i64 n n n rfl rfl rfl rfl (by rw [hz2]; omega) (by unfold maxLen; omega) (Nat.le_refl _) ?_; intro w1 ho hg; have hbk := made_block (by rfl) ho; have hbel := below_grown hg; clear ho hg) | (refine wpList_copy_splice rfl _ _ 23 23 rfl 4 Try.underlying23 Try.size4 _ _ n n n c rfl rfl w.heap.size 0 (List.replicate n (.bool false)) 4 hbk (bools z) (by rw [HL.out]; simp) (src_cells H.out hbel rfl _) (by rw [HL.out]; simp) (one_bools z) w.heap.size w hbel (Nat.le_refl _) ?_; intro w2 hbk2 hbel2; clear hbk hbel))

    go_ret
    have hk := hbk2.out
    rw [splice_all _ _ (by rw [HL.out]; simp)] at hk
    exact ⟨_, _, rfl, Own.fresh hk (Nat.le_refl _) HL.out hsm, hbel2⟩

set_option maxHeartbeats 400000 in
theorem cloneU8_any (a : Option Addr) (n c : Nat) (z : List Int) (w : World) (h : Rd w a n (u8s z)) :
    Calls Try.prog 12 #[.slice a n c] w fun e w' => ∃ a' c', e = .returned (.slice a' n c') ∧ Own w' w.heap.size 5 a' n c' (u8s z) ∧ Below w.heap.size w w' := by
  have hsm := h.small
  have hL := h.len
  have HL : Hid ((u8s z).length = n) := hL
  have H : Hid (Rd w a n (u8s z)) := h
  clear hL h
  have hq := fun w => Lib.run_eql_slice_nil (P := Try.prog) w 22 5 a n c 0 0 Try.underlying22
  cases a with
  | none =>
    obtain rfl : n = 0 := H.out.nil rfl
    go_enter Try.func12, Try.ntmps12
    go_wp2
    go_ret
    exact ⟨none, 0, rfl, ⟨HL.out, Nat.le_refl _, Nat.zero_le _, Nat.zero_le _, .inl ⟨rfl, rfl⟩⟩, Below.refl _ _⟩
  | some ad =>
    obtain ⟨i0, hi, hz0, hz1, hz2⟩ := info_parts Try.info5
    go_enter Try.func12, Try.ntmps12
    go_wp2_with (first | (at_make; refine wpList_make_full _ rfl _ _ 22 rfl w.heap.size 5 i0 (.int .u8 0) 1 Try.underlying22 hi hz0 hz1 .i64 .i64 n n n rfl rfl rfl rfl (by rw [hz2]; omega) (by unfold maxLen; omega) (Nat.le_refl _) ?_; intro w1 ho hg; have hbk := made_block (by rfl) ho; have hbel := below_grown hg; clear ho hg) | (refine wpList_copy_splice rfl _ _ 22 22 rfl 5 Try.underlying22 Try.size5 _ _ n n n c rfl rfl w.heap.size 0 (List.replicate n (.int .u8 0)) 5 hbk (u8s z) (by rw [HL.out]; simp) (src_cells H.out hbel rfl _) (by rw [HL.out]; simp) (one_u8s z) w.heap.size w hbel (Nat.le_refl _) ?_; intro w2 hbk2 hbel2; clear hbk hbel))

    go_ret
    have hk := hbk2.out
    rw [splice_all _ _ (by rw [HL.out]; simp)] at hk
    exact ⟨_, _, rfl, Own.fresh hk (Nat.le_refl _) HL.out hsm, hbel2⟩
end Go.Proofs.Qxb6602173a
