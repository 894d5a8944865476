import Derived.Test.Qxb6602173aBase
namespace Go.Proofs.Qxb6602173a
open Go.RowKit
set_option linter.unusedVariables false
set_option linter.unusedSimpArgs false

theorem take_eq_succ {α : Type} {l m : List α} {k : Nat} {x : α} (h1 : l[k]? = some x) (h2 : m[k]? = some x) (h : l.take k = m.take k) : l.take (k + 1) = m.take (k + 1) := by
  rw [take_succ_of h1, take_succ_of h2, h]
theorem dec_ne {α : Type} [DecidableEq α] {l m : List α} {k : Nat} {x y : α} (h1 : l[k]? = some x) (h2 : m[k]? = some y) (h : ¬ x = y) : false = decide (l = m) := by
  symm
  rw [decide_eq_false_iff_not]
  intro e
  rw [e, h2] at h1
  exact h (Option.some.inj h1).symm
theorem dec_len {α : Type} [DecidableEq α] {l m : List α} {n k : Nat} (h : l.length = n ∧ m.length = k) (hne : ¬ n = k) : false = decide (l = m) := by
  symm
  rw [decide_eq_false_iff_not]
  intro e
  rw [e] at h
  exact hne (h.1.symm.trans h.2)
theorem dec_all {α : Type} [DecidableEq α] {l m : List α} {n k : Nat} (h : l.length = n ∧ m.length = n) (hk : ¬ k < n) (he : l.take k = m.take k) : true = decide (l = m) := by
  rw [List.take_of_length_le (by omega), List.take_of_length_le (by omega)] at he
  simp [he]

set_option maxHeartbeats 400000 in
theorem eqInts_any (a1 a2 : Option Addr) (n1 n2 c1 c2 : Nat) (z1 z2 : List Int) (w : World) (h1 : Rd w a1 n1 (ints z1)) (h2 : Rd w a2 n2 (ints z2)) :
    Calls Try.prog 35 #[.slice a1 n1 c1, .slice a2 n2 c2] w fun e w' => e = .returned (.bool (decide (z1 = z2))) ∧ ∃ n, w' = w.drewN n := by
  have hL1 := h1.1
  have hL2 := h2.1
  have hm1 := h1.2.1
  have hm2 := h2.2.1
  simp only [ints_length] at hL1 hL2
  have HL : Hid (z1.length = n1 ∧ z2.length = n2) := ⟨hL1, hL2⟩
  clear hL1 hL2
  by_cases hl : n1 = n2
  · subst hl
    have H1 : Hid (Rd w a1 n1 (ints z1)) := h1
    have H2 : Hid (Rd w a2 n1 (ints z2)) := h2
    clear h1 h2
    go_enter Try.func35, Try.ntmps35
    go_wp2
    go_loopw [5] (fun i wr => ∃ k q : Nat, k ≤ n1 ∧ i = .int .i64 k ∧ wr = w.drewN q ∧ Hid (z1.take k = z2.take k)) (fun i _ => n1 - (intOf i).toNat)
    case atStart => exact ⟨0, 0, Nat.zero_le _, rfl, rfl, by simp [Hid]⟩
    case round =>
      obtain ⟨k, q, hk, rfl, rfl, HE⟩ := hrel
      by_cases hlt : k < n1
      · obtain ⟨b1, o1, x1, rfl, e1, g1⟩ := Rd.int H1.out hlt
        obtain ⟨b2, o2, x2, rfl, e2, g2⟩ := Rd.int H2.out hlt
        have E1 : Hid (z1[k]? = some x1) := e1
        have E2 : Hid (z2[k]? = some x2) := e2
        clear e1 e2
        have hlt' : (k : Int) < (n1 : Int) := by omega
        by_cases hx : x1 = x2
        · subst hx
          go_wp2
          go_quiet (fail)
          go_wp2
          go_roundw
          case rel => exact ⟨k + 1, _, by omega, by go_num, rfl, take_eq_succ E1.out E2.out HE.out⟩
          case measure => simp [intOf]; omega
        · have HX : Hid (¬ x1 = x2) := hx
          have hb : (x1 != x2) = true := by simp [hx]
          clear hx
          go_wp2
          go_quiet (fail)
          go_wp2
          go_ret
          exact ⟨ret_bool (dec_ne E1.out E2.out HX.out), _, World.drewN_drewN _ _ _⟩
      · go_wp2
        go_ret
        exact ⟨ret_bool (dec_all HL.out hlt HE.out), q, rfl⟩
  · have hb : ((n1 : Int) != (n2 : Int)) = true := by simp; omega
    go_enter Try.func35, Try.ntmps35
    go_wp2
    go_ret
    exact ⟨ret_bool (dec_len HL.out hl), 0, rfl⟩

set_option maxHeartbeats 400000 in
theorem eqBools_any (a1 a2 : Option Addr) (n1 n2 c1 c2 : Nat) (z1 z2 : List Bool) (w : World) (h1 : Rd w a1 n1 (bools z1)) (h2 : Rd w a2 n2 (bools z2)) :
    Calls Try.prog 32 #[.slice a1 n1 c1, .slice a2 n2 c2] w fun e w' => e = .returned (.bool (decide (z1 = z2))) ∧ ∃ n, w' = w.drewN n := by
  have hL1 := h1.1
  have hL2 := h2.1
  have hm1 := h1.2.1
  have hm2 := h2.2.1
  simp only [bools_length] at hL1 hL2
  have HL : Hid (z1.length = n1 ∧ z2.length = n2) := ⟨hL1, hL2⟩
  clear hL1 hL2
  by_cases hl : n1 = n2
  · subst hl
    have H1 : Hid (Rd w a1 n1 (bools z1)) := h1
    have H2 : Hid (Rd w a2 n1 (bools z2)) := h2
    clear h1 h2
    go_enter Try.func32, Try.ntmps32
    go_wp2
    go_loopw [5] (fun i wr => ∃ k q : Nat, k ≤ n1 ∧ i = .int .i64 k ∧ wr = w.drewN q ∧ Hid (z1.take k = z2.take k)) (fun i _ => n1 - (intOf i).toNat)
    case atStart => exact ⟨0, 0, Nat.zero_le _, rfl, rfl, by simp [Hid]⟩
    case round =>
      obtain ⟨k, q, hk, rfl, rfl, HE⟩ := hrel
      by_cases hlt : k < n1
      · obtain ⟨b1, o1, x1, rfl, e1, g1⟩ := Rd.bool H1.out hlt
        obtain ⟨b2, o2, x2, rfl, e2, g2⟩ := Rd.bool H2.out hlt
        have E1 : Hid (z1[k]? = some x1) := e1
        have E2 : Hid (z2[k]? = some x2) := e2
        clear e1 e2
        have hlt' : (k : Int) < (n1 : Int) := by omega
        by_cases hx : x1 = x2
        · subst hx
          go_wp2
          go_quiet (fail)
          go_wp2
          go_roundw
          case rel => exact ⟨k + 1, _, by omega, by go_num, rfl, take_eq_succ E1.out E2.out HE.out⟩
          case measure => simp [intOf]; omega
        · have HX : Hid (¬ x1 = x2) := hx
          have hb : (x1 != x2) = true := by simp [hx]
          have hb3 : (x1 == x2) = false := by simpa using hx
          clear hx
          go_wp2
          go_quiet (fail)
          go_wp2
          go_ret
          exact ⟨ret_bool (dec_ne E1.out E2.out HX.out), _, World.drewN_drewN _ _ _⟩
      · go_wp2
        go_ret
        exact ⟨ret_bool (dec_all HL.out hlt HE.out), q, rfl⟩
  · have hb : ((n1 : Int) != (n2 : Int)) = true := by simp; omega
    go_enter Try.func32, Try.ntmps32
    go_wp2
    go_ret
    exact ⟨ret_bool (dec_len HL.out hl), 0, rfl⟩

set_option maxHeartbeats 400000 in
theorem eqU8_any (a1 a2 : Option Addr) (n1 n2 c1 c2 : Nat) (z1 z2 : List Int) (w : World) (h1 : Rd w a1 n1 (u8s z1)) (h2 : Rd w a2 n2 (u8s z2)) :
    Calls Try.prog 29 #[.slice a1 n1 c1, .slice a2 n2 c2] w fun e w' => e = .returned (.bool (decide (z1 = z2))) ∧ ∃ n, w' = w.drewN n := by
  have hL1 := h1.1
  have hL2 := h2.1
  have hm1 := h1.2.1
  have hm2 := h2.2.1
  simp only [u8s_length] at hL1 hL2
  have HL : Hid (z1.length = n1 ∧ z2.length = n2) := ⟨hL1, hL2⟩
  clear hL1 hL2
  by_cases hl : n1 = n2
  · subst hl
    have H1 : Hid (Rd w a1 n1 (u8s z1)) := h1
    have H2 : Hid (Rd w a2 n1 (u8s z2)) := h2
    clear h1 h2
    go_enter Try.func29, Try.ntmps29
    go_wp2
    go_loopw [5] (fun i wr => ∃ k q : Nat, k ≤ n1 ∧ i = .int .i64 k ∧ wr = w.drewN q ∧ Hid (z1.take k = z2.take k)) (fun i _ => n1 - (intOf i).toNat)
    case atStart => exact ⟨0, 0, Nat.zero_le _, rfl, rfl, by simp [Hid]⟩
    case round =>
      obtain ⟨k, q, hk, rfl, rfl, HE⟩ := hrel
      by_cases hlt : k < n1
      · obtain ⟨b1, o1, x1, rfl, e1, g1⟩ := Rd.u8 H1.out hlt
        obtain ⟨b2, o2, x2, rfl, e2, g2⟩ := Rd.u8 H2.out hlt
        have E1 : Hid (z1[k]? = some x1) := e1
        have E2 : Hid (z2[k]? = some x2) := e2
        clear e1 e2
        have hlt' : (k : Int) < (n1 : Int) := by omega
        by_cases hx : x1 = x2
        · subst hx
          go_wp2
          go_quiet (fail)
          go_wp2
          go_roundw
          case rel => exact ⟨k + 1, _, by omega, by go_num, rfl, take_eq_succ E1.out E2.out HE.out⟩
          case measure => simp [intOf]; omega
        · have HX : Hid (¬ x1 = x2) := hx
          have hb : (x1 != x2) = true := by simp [hx]
          clear hx
          go_wp2
          go_quiet (fail)
          go_wp2
          go_ret
          exact ⟨ret_bool (dec_ne E1.out E2.out HX.out), _, World.drewN_drewN _ _ _⟩
      · go_wp2
        go_ret
        exact ⟨ret_bool (dec_all HL.out hlt HE.out), q, rfl⟩
  · have hb : ((n1 : Int) != (n2 : Int)) = true := by simp; omega
    go_enter Try.func29, Try.ntmps29
    go_wp2
    go_ret
    exact ⟨ret_bool (dec_len HL.out hl), 0, rfl⟩
end Go.Proofs.Qxb6602173a
