import Derived.Test.Qxb6602173aBase
namespace Go.Proofs.Qxb6602173a
open Go.RowKit
set_option linter.unusedVariables false
set_option linter.unusedSimpArgs false

/-- The Picker's box at block pb. -/
def Bx (w : World) (pb : Nat) (S : Value) (ver act : Int) (C : Value) (que : Int) (H O A T : Value) : Prop :=
  w.heap[pb]? = some (.cells #[S, .int .i64 ver, .int .i64 act, C, .int .i64 que, H, O, A, T] 53 (0, 0))

theorem Bx.cells {w : World} {pb : Nat} {S : Value} {ver act : Int} {C : Value} {que : Int} {H O A T : Value} (h : Bx w pb S ver act C que H O A T) :
    w.cell? ⟨pb, 0, none⟩ = some S ∧ w.cell? ⟨pb, 1, none⟩ = some (.int .i64 ver) ∧ w.cell? ⟨pb, 2, none⟩ = some (.int .i64 act) ∧ w.cell? ⟨pb, 3, none⟩ = some C ∧ w.cell? ⟨pb, 4, none⟩ = some (.int .i64 que) ∧
    w.cell? ⟨pb, 5, none⟩ = some H ∧ w.cell? ⟨pb, 6, none⟩ = some O ∧ w.cell? ⟨pb, 7, none⟩ = some A ∧ w.cell? ⟨pb, 8, none⟩ = some T := by
  unfold Bx at h
  simp [World.cell?, h]
theorem Bx.free {w : World} {pb : Nat} {S : Value} {ver act : Int} {C : Value} {que : Int} {H O A T : Value} (h : Bx w pb S ver act C que H O A T) (i : Nat) : w.frozen? ⟨pb, i, none⟩ = false := by
  unfold Bx at h
  simp [World.frozen?, h]

def endF (starts : List Int) (l : Nat) (x : Int) : Int := if x + 1 < starts.length then starts.getD (x + 1).toNat 0 else l

set_option maxHeartbeats 400000 in
theorem end_any (pb : Nat) (x : Int) (aO aT : Option Addr) (l cO k cT : Nat) (starts : List Int) (w : World) (hx0 : 0 ≤ x) (hx1 : x ≤ 100000000)
    (h6 : w.cell? ⟨pb, 6, none⟩ = some (.slice aO l cO)) (h8 : w.cell? ⟨pb, 8, none⟩ = some (.slice aT k cT)) (hT : Rd w aT k (ints starts)) :
    Calls Try.prog 45 #[.pointer (some ⟨pb, 0, none⟩), .int .i64 x] w fun e w' => e = .returned (.int .i64 (endF starts l x)) ∧ w' = w := by
  have hL := hT.len
  have hs := hT.small
  rw [ints_length] at hL
  have HL : Hid (starts.length = k) := hL
  have H : Hid (Rd w aT k (ints starts)) := hT
  clear hL hT
  by_cases hlt : x + 1 < k
  · obtain ⟨b, o, y, rfl, e1, g1⟩ := H.out.int (i := (x + 1).toNat) (by omega)
    have E1 : Hid (starts[(x + 1).toNat]? = some y) := e1
    clear e1
    have hp : 0 ≤ x + 1 := by omega
    go_enter Try.func45, Try.ntmps45
    go_wp2
    go_ret
    exact ⟨ret_int (by unfold endF; rw [HL.out, if_pos hlt, List.getD, E1.out]; rfl), rfl⟩
  · have hlt' : decide (x + 1 < (k : Int)) = false := by simp; omega
    go_enter Try.func45, Try.ntmps45
    go_wp2
    go_ret
    exact ⟨ret_int (by unfold endF; rw [HL.out, if_neg (by omega)]), rfl⟩

/-- endGame. -/
theorem endGame_any (pb : Nat) (act : Int) (aO : Option Addr) (l cO : Nat) (w : World)
    (h2 : w.cell? ⟨pb, 2, none⟩ = some (.int .i64 act)) (h6 : w.cell? ⟨pb, 6, none⟩ = some (.slice aO l cO)) :
    Calls Try.prog 47 #[.pointer (some ⟨pb, 0, none⟩)] w fun e w' => e = .returned (.bool (act == (l : Int))) ∧ ∃ n, w' = w.drewN n := by
  go_enter Try.func47, Try.ntmps47
  go_wp2
  go_quiet (fail)
  go_wp2
  go_ret
  exact ⟨rfl, _, rfl⟩


def hasB (has : List Int) (x : Int) : Bool := bits BinOp.and IntKind.u8 (has.getD (x / 8).toNat 0) (128 / 2 ^ (x % 8).toNat) != 0

set_option maxHeartbeats 400000 in
theorem has_any (x : Int) (aB : Option Addr) (nb cB : Nat) (has : List Int) (w : World) (hx0 : 0 ≤ x) (hx1 : x < 8 * nb) (hB : Rd w aB nb (u8s has)) :
    Calls Try.prog 46 #[.slice aB nb cB, .int .i64 x] w fun e w' => e = .returned (.bool (hasB has x)) ∧ ∃ n, w' = w.drewN n := by
  have hs := hB.small
  obtain ⟨b, o, y, rfl, e1, g1⟩ := hB.u8 (i := (x / 8).toNat) (by omega)
  have E1 : Hid (has[(x / 8).toNat]? = some y) := e1
  clear e1 hB
  have hq0 : 0 ≤ x / 8 := by omega
  have hq1 : x / 8 < (nb : Int) := by omega
  have hr0 : 0 ≤ x % 8 := by omega
  have hr1 : x % 8 < 8 := by omega
  go_enter Try.func46, Try.ntmps46
  go_wp2
  go_quiet (fail)
  go_wp2
  go_ret
  exact ⟨ret_bool (by unfold hasB; rw [List.getD, E1.out]; rfl), _, rfl⟩

set_option maxHeartbeats 400000 in
theorem hasShare_any (pb : Nat) (aS aF : Option Addr) (n cS nf cF : Nat) (ver que queue : Int) (w : World) (hn : n ≤ 16777216) (hv0 : 0 ≤ ver) (hvn : ver ≤ n) (hq1 : 1 ≤ que) (hq2 : que ≤ 1073741824)
    (hm0 : 0 ≤ (n - ver) * queue) (hm1 : (n - ver) * queue ≤ 100000000000000000)
    (h0 : w.cell? ⟨pb, 0, none⟩ = some (.slice aS n cS)) (h1 : w.cell? ⟨pb, 1, none⟩ = some (.int .i64 ver)) (h4 : w.cell? ⟨pb, 4, none⟩ = some (.int .i64 que)) :
    Calls Try.prog 40 #[.pointer (some ⟨pb, 0, none⟩), .slice aF nf cF, .int .i64 queue] w fun e w' => e = .returned (.bool (decide (((n - ver) * queue + que - 1) / que ≤ nf))) ∧ ∃ n, w' = w.drewN n := by
  have hz : (que == 0) = false := by simp; omega
  go_enter Try.func40, Try.ntmps40
  go_wp2
  go_quiet (fail)
  go_wp2
  go_ret
  exact ⟨rfl, _, rfl⟩

def inB (z : List Int) (x : Int) : Bool := z.contains x
theorem inB_iff (z : List Int) (x : Int) : inB z x = true ↔ x ∈ z := by unfold inB; rw [List.contains_iff_mem]
theorem inB_yes {z : List Int} {x : Int} {k : Nat} (h : z[k]? = some x) : Hid (decide (0 ≤ (k : Int)) = inB z x) := by
  show _ = _
  rw [decide_eq_true (by omega)]; symm; rw [inB_iff]; exact List.mem_of_getElem? h
theorem inB_no {z : List Int} {x : Int} {k n : Nat} (h : x ∉ z.take k) (hl : z.length = n) (hk : ¬ k < n) : Hid (decide (0 ≤ (-1 : Int)) = inB z x) := by
  show _ = _
  rw [List.take_of_length_le (by omega)] at h
  rw [decide_eq_false (by omega)]; symm
  rw [← Bool.not_eq_true, inB_iff]; exact h

set_option maxHeartbeats 400000 in
theorem index_any (aF : Option Addr) (nf cF : Nat) (x : Int) (z : List Int) (w : World) (hF : Rd w aF nf (ints z)) :
    Calls Try.prog 49 #[.slice aF nf cF, .int .i64 x] w fun e w' => (∃ r : Int, e = .returned (.int .i64 r) ∧ Hid (decide (0 ≤ r) = inB z x)) ∧ w' = w := by
  have hs := hF.small
  have hL := hF.len
  rw [ints_length] at hL
  have HL : Hid (z.length = nf) := hL
  have H : Hid (Rd w aF nf (ints z)) := hF
  clear hL hF
  go_enter Try.func49, Try.ntmps49
  go_wp2
  go_loop [8] (fun i => ∃ k : Nat, k ≤ nf ∧ i = .int .i64 k ∧ Hid (x ∉ z.take k)) (fun i => nf - (intOf i).toNat)
  case atStart => exact ⟨0, Nat.zero_le _, rfl, by simp [Hid]⟩
  case round =>
    obtain ⟨k, hk, rfl, HE⟩ := hrel
    by_cases hlt : k < nf
    · obtain ⟨b, o, y, rfl, e1, g1⟩ := Rd.int H.out hlt
      have E1 : Hid (z[k]? = some y) := e1
      clear e1
      by_cases hxy : x = y
      · subst hxy
        go_wp2
        go_ret
        exact ⟨⟨k, rfl, inB_yes E1.out⟩, rfl⟩
      · have HX : Hid (¬ x = y) := hxy
        have hb : (x == y) = false := by simp [hxy]
        clear hxy
        go_wp2
        go_round
        case rel => exact ⟨k + 1, by omega, by go_num, by show _ ∉ _; rw [take_succ_of E1.out, List.mem_append]; rintro (h | h); exact HE.out h; simp at h; exact HX.out h⟩
        case measure => simp [intOf]; omega
    · go_wp2
      go_ret
      exact ⟨⟨-1, rfl, inB_no HE.out HL.out (by omega)⟩, rfl⟩

set_option maxHeartbeats 400000 in
theorem contains_any (aF : Option Addr) (nf cF : Nat) (x : Int) (z : List Int) (w : World) (hF : Rd w aF nf (ints z)) :
    Calls Try.prog 48 #[.slice aF nf cF, .int .i64 x] w fun e w' => e = .returned (.bool (inB z x)) ∧ w' = w := by
  have H : Hid (Rd w aF nf (ints z)) := hF
  clear hF
  go_enter Try.func48, Try.ntmps48
  go_wp2_with (go_at_call 49; refine (index_any aF nf cF x z _ H.out).mono ?_; rintro e w' ⟨⟨r, rfl, hr⟩, rfl⟩)
  go_ret
  exact ⟨ret_bool hr.out, rfl⟩

end Go.Proofs.Qxb6602173a
