import Derived.Test.Qxb6602173aMake
import Derived.Test.Qxb6602173aEq
import Derived.Test.Qxb6602173aZz
namespace Go.Proofs.Qxb6602173a
open Go.RowKit
set_option linter.unusedVariables false
set_option linter.unusedSimpArgs false

theorem hdg {p : Prop} (h : p) : Hid p := h
theorem blg {a b c : World} (h : Below a.heap.size a b) (k : Below b.heap.size b c) : Below a.heap.size a c := h.trans (k.mono h.size)

set_option maxHeartbeats 400000 in
theorem states_any (pb n cS : Nat) (aS : Option Addr) (st : List Int) (w : World) (h0 : w.cell? ⟨pb, 0, none⟩ = some (.slice aS n cS)) (hS : Rd w aS n (u8s st)) :
    Calls Try.prog 25 #[.pointer (some ⟨pb, 0, none⟩)] w fun e w' => e = .returned (.slice (some ⟨w.heap.size, 0, none⟩) n n) ∧ Own w' w.heap.size 5 (some ⟨w.heap.size, 0, none⟩) n n (u8s st) ∧ Below w.heap.size w w' := by
  have hsm := hS.small
  have HL := hdg hS.len
  have H := hdg hS
  have hpb := cell_lt h0
  clear hS
  obtain ⟨i0, hi, hz0, hz1, hz2⟩ := info_parts Try.info5
  have C0 := hdg h0
  go_enter Try.func25, Try.ntmps25
  go_wp2_with (first | (at_make; refine wpList_make_full _ rfl _ _ 22 rfl w.heap.size 5 i0 (.int .u8 0) 1 Try.underlying22 hi hz0 hz1 .i64 .i64 n n n rfl rfl rfl rfl (by rw [hz2]; omega) (by unfold maxLen; omega) (Nat.le_refl _) ?_; intro w1 ho hg; have hbk := made_block (by rfl) ho; have hbel := below_grown hg; have h0' : w1.cell? ⟨pb, 0, none⟩ = some (.slice aS n cS) := (hbel.cell (p := ⟨pb, 0, none⟩) hpb).trans h0; clear ho hg))
  go_loopw [16] (fun i wr => ∃ k : Nat, k ≤ n ∧ i = .int .i64 k ∧ Hid (Fill wr w.heap.size 5 n (u8s st) (.int .u8 0) k) ∧ Hid (Below w.heap.size w wr)) (fun i _ => n - (intOf i).toNat)
  case atStart => exact ⟨0, Nat.zero_le _, rfl, Fill.start hbk, hbel⟩
  case round =>
    obtain ⟨k, hk, rfl, HF, HB⟩ := hrel
    clear hbk hbel h0' h0
    have h0 : wr.cell? ⟨pb, 0, none⟩ = some (.slice aS n cS) := (HB.out.cell (p := ⟨pb, 0, none⟩) hpb).trans C0.out
    by_cases hlt : k < n
    · obtain ⟨b, o, x, rfl, e1, g1⟩ := (H.out.below HB.out).u8 hlt
      obtain ⟨hc, hf⟩ := HF.out.cell HL.out hlt
      have E1 : Hid ((u8s st)[k]? = some (.int .u8 x)) := by show _ = _; rw [u8s, List.getElem?_map, e1]; rfl
      clear e1
      go_wp2
      go_roundw
      case rel => exact ⟨k + 1, by omega, by go_num, HF.out.step HL.out hlt E1.out, HB.out.setCell (Nat.le_refl _) _⟩
      case measure => simp [intOf]; omega
    · go_wp2
      go_ret
      exact ⟨rfl, Own.fresh (HF.out.done HL.out (by omega)) (Nat.le_refl _) HL.out hsm, HB.out⟩

theorem get30 (pb : Nat) (v : Value) (w : World) (h : w.cell? ⟨pb, 1, none⟩ = some v) : Calls Try.prog 30 #[.pointer (some ⟨pb, 0, none⟩)] w fun e w' => e = .returned v ∧ w' = w := by
  go_enter Try.func30, Try.ntmps30
  go_wp2
  go_ret
  exact ⟨rfl, rfl⟩

theorem get31 (pb : Nat) (v : Value) (w : World) (h : w.cell? ⟨pb, 2, none⟩ = some v) : Calls Try.prog 31 #[.pointer (some ⟨pb, 0, none⟩)] w fun e w' => e = .returned v ∧ w' = w := by
  go_enter Try.func31, Try.ntmps31
  go_wp2
  go_ret
  exact ⟨rfl, rfl⟩

theorem get33 (pb : Nat) (v : Value) (w : World) (h : w.cell? ⟨pb, 3, none⟩ = some v) : Calls Try.prog 33 #[.pointer (some ⟨pb, 0, none⟩)] w fun e w' => e = .returned v ∧ w' = w := by
  go_enter Try.func33, Try.ntmps33
  go_wp2
  go_ret
  exact ⟨rfl, rfl⟩

theorem get34 (pb : Nat) (v : Value) (w : World) (h : w.cell? ⟨pb, 4, none⟩ = some v) : Calls Try.prog 34 #[.pointer (some ⟨pb, 0, none⟩)] w fun e w' => e = .returned v ∧ w' = w := by
  go_enter Try.func34, Try.ntmps34
  go_wp2
  go_ret
  exact ⟨rfl, rfl⟩

theorem get36 (pb : Nat) (v : Value) (w : World) (h : w.cell? ⟨pb, 5, none⟩ = some v) : Calls Try.prog 36 #[.pointer (some ⟨pb, 0, none⟩)] w fun e w' => e = .returned v ∧ w' = w := by
  go_enter Try.func36, Try.ntmps36
  go_wp2
  go_ret
  exact ⟨rfl, rfl⟩

theorem get37 (pb : Nat) (v : Value) (w : World) (h : w.cell? ⟨pb, 6, none⟩ = some v) : Calls Try.prog 37 #[.pointer (some ⟨pb, 0, none⟩)] w fun e w' => e = .returned v ∧ w' = w := by
  go_enter Try.func37, Try.ntmps37
  go_wp2
  go_ret
  exact ⟨rfl, rfl⟩

theorem get38 (pb : Nat) (v : Value) (w : World) (h : w.cell? ⟨pb, 7, none⟩ = some v) : Calls Try.prog 38 #[.pointer (some ⟨pb, 0, none⟩)] w fun e w' => e = .returned v ∧ w' = w := by
  go_enter Try.func38, Try.ntmps38
  go_wp2
  go_ret
  exact ⟨rfl, rfl⟩

theorem get39 (pb : Nat) (v : Value) (w : World) (h : w.cell? ⟨pb, 8, none⟩ = some v) : Calls Try.prog 39 #[.pointer (some ⟨pb, 0, none⟩)] w fun e w' => e = .returned v ∧ w' = w := by
  go_enter Try.func39, Try.ntmps39
  go_wp2
  go_ret
  exact ⟨rfl, rfl⟩

theorem dec_refl {α : Type} [DecidableEq α] (l : List α) : decide (l = l) = true := by simp
theorem eqInts_same (a1 a2 : Option Addr) (n c1 c2 : Nat) (z : List Int) (w : World) (h1 : Rd w a1 n (ints z)) (h2 : Rd w a2 n (ints z)) :
    Calls Try.prog 35 #[.slice a1 n c1, .slice a2 n c2] w fun e w' => e = .returned (.bool true) ∧ Below w.heap.size w w' :=
  (eqInts_any a1 a2 n n c1 c2 z z w h1 h2).mono fun e w' ⟨he, m, hm⟩ => ⟨by rw [he, dec_refl], by rw [hm]; exact below_drewN (Below.refl _ _) m⟩
theorem eqBools_same (a1 a2 : Option Addr) (n c1 c2 : Nat) (z : List Bool) (w : World) (h1 : Rd w a1 n (bools z)) (h2 : Rd w a2 n (bools z)) :
    Calls Try.prog 32 #[.slice a1 n c1, .slice a2 n c2] w fun e w' => e = .returned (.bool true) ∧ Below w.heap.size w w' :=
  (eqBools_any a1 a2 n n c1 c2 z z w h1 h2).mono fun e w' ⟨he, m, hm⟩ => ⟨by rw [he, dec_refl], by rw [hm]; exact below_drewN (Below.refl _ _) m⟩
theorem eqU8_same (a1 a2 : Option Addr) (n c1 c2 : Nat) (z : List Int) (w : World) (h1 : Rd w a1 n (u8s z)) (h2 : Rd w a2 n (u8s z)) :
    Calls Try.prog 29 #[.slice a1 n c1, .slice a2 n c2] w fun e w' => e = .returned (.bool true) ∧ Below w.heap.size w w' :=
  (eqU8_any a1 a2 n n c1 c2 z z w h1 h2).mono fun e w' ⟨he, m, hm⟩ => ⟨by rw [he, dec_refl], by rw [hm]; exact below_drewN (Below.refl _ _) m⟩
end Go.Proofs.Qxb6602173a
