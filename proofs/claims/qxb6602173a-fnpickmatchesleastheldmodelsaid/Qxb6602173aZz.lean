import Derived.Test.Qxb6602173aBase
namespace Go.Proofs.Qxb6602173a
open Go.RowKit
set_option linter.unusedVariables false
set_option linter.unusedSimpArgs false

/-- A slice that came in, of whatever length. -/
def Rd0 (w : World) (a : Option Addr) (n : Nat) (vs : List Value) : Prop :=
  vs.length = n ∧ n ≤ 9223372036854775807 ∧ ∀ i, i < n → ∃ b off x, a = some ⟨b, off, none⟩ ∧ vs[i]? = some x ∧ w.cell? ⟨b, off + i, none⟩ = some x
theorem Rd0.rd {w : World} {a : Option Addr} {n : Nat} {vs : List Value} (h : Rd0 w a n vs) (hn : n ≤ 1048576) : Rd w a n vs := ⟨h.1, by omega, h.2.2⟩

theorem wide_any (w : World) : Calls Try.prog 10 #[] w fun e w' => e = .returned (.bool true) ∧ w' = w := by
  go_enter Try.func10, Try.ntmps10
  go_wp2
  go_ret
  exact ⟨rfl, rfl⟩

def sumOk (n : Nat) : Bool := decide (n ≤ 1048576)
theorem sumOk_yes {n : Nat} (h : n ≤ 1048576) : true = sumOk n := by simp [sumOk, h]
theorem sumOk_no {n : Nat} (h : 1048576 < n) : false = sumOk n := by simp [sumOk]; omega

set_option maxHeartbeats 1000000 in
theorem zz9_any (a0 : Option Addr) (n0 c0 : Nat) (x1 : Int) (x2 : Int) (a3 : Option Addr) (n3 c3 : Nat) (x4 : Int) (a5 : Option Addr) (n5 c5 : Nat) (a6 : Option Addr) (n6 c6 : Nat) (a7 : Option Addr) (n7 c7 : Nat) (a8 : Option Addr) (n8 c8 : Nat) (a9 : Option Addr) (n9 c9 : Nat) (a10 : Option Addr) (n10 c10 : Nat) (x11 : Int) (w : World) (h0 : n0 ≤ 9223372036854775807) (h3 : n3 ≤ 9223372036854775807) (h5 : n5 ≤ 9223372036854775807) (h6 : n6 ≤ 9223372036854775807) (h7 : n7 ≤ 9223372036854775807) (h8 : n8 ≤ 9223372036854775807) (h9 : n9 ≤ 9223372036854775807) (h10 : n10 ≤ 9223372036854775807) :
    Calls Try.prog 9 #[.slice a0 n0 c0, .int .i64 x1, .int .i64 x2, .slice a3 n3 c3, .int .i64 x4, .slice a5 n5 c5, .slice a6 n6 c6, .slice a7 n7 c7, .slice a8 n8 c8, .slice a9 n9 c9, .slice a10 n10 c10, .int .i64 x11] w fun e w' => e = .returned (.bool (sumOk (n0 + n3 + n5 + n6 + n7 + n8 + n9 + n10))) ∧ w' = w := by
  go_enter Try.func9, Try.ntmps9
  go_wp2
  all_goals
    go_ret
    exact ⟨ret_bool (by first | exact sumOk_yes (by omega) | exact sumOk_no (by omega)), rfl⟩

set_option maxHeartbeats 1000000 in
theorem zz19_any (a0 : Option Addr) (n0 c0 : Nat) (x1 : Int) (x2 : Int) (a3 : Option Addr) (n3 c3 : Nat) (x4 : Int) (a5 : Option Addr) (n5 c5 : Nat) (a6 : Option Addr) (n6 c6 : Nat) (a7 : Option Addr) (n7 c7 : Nat) (a8 : Option Addr) (n8 c8 : Nat) (a9 : Option Addr) (n9 c9 : Nat) (a10 : Option Addr) (n10 c10 : Nat) (x11 : Int) (w : World) (h0 : n0 ≤ 9223372036854775807) (h3 : n3 ≤ 9223372036854775807) (h5 : n5 ≤ 9223372036854775807) (h6 : n6 ≤ 9223372036854775807) (h7 : n7 ≤ 9223372036854775807) (h8 : n8 ≤ 9223372036854775807) (h9 : n9 ≤ 9223372036854775807) (h10 : n10 ≤ 9223372036854775807) :
    Calls Try.prog 19 #[.slice a0 n0 c0, .int .i64 x1, .int .i64 x2, .slice a3 n3 c3, .int .i64 x4, .slice a5 n5 c5, .slice a6 n6 c6, .slice a7 n7 c7, .slice a8 n8 c8, .slice a9 n9 c9, .slice a10 n10 c10, .int .i64 x11] w fun e w' => e = .returned (.bool (sumOk (n0 + n3 + n5 + n6 + n7 + n8 + n9 + n10))) ∧ w' = w := by
  go_enter Try.func19, Try.ntmps19
  go_wp2
  all_goals
    go_ret
    exact ⟨ret_bool (by first | exact sumOk_yes (by omega) | exact sumOk_no (by omega)), rfl⟩

set_option maxHeartbeats 1000000 in
theorem zz20_any (a0 : Option Addr) (n0 c0 : Nat) (x1 : Int) (x2 : Int) (a3 : Option Addr) (n3 c3 : Nat) (x4 : Int) (a5 : Option Addr) (n5 c5 : Nat) (a6 : Option Addr) (n6 c6 : Nat) (a7 : Option Addr) (n7 c7 : Nat) (a8 : Option Addr) (n8 c8 : Nat) (x9 : Int) (w : World) (h0 : n0 ≤ 9223372036854775807) (h3 : n3 ≤ 9223372036854775807) (h5 : n5 ≤ 9223372036854775807) (h6 : n6 ≤ 9223372036854775807) (h7 : n7 ≤ 9223372036854775807) (h8 : n8 ≤ 9223372036854775807) :
    Calls Try.prog 20 #[.slice a0 n0 c0, .int .i64 x1, .int .i64 x2, .slice a3 n3 c3, .int .i64 x4, .slice a5 n5 c5, .slice a6 n6 c6, .slice a7 n7 c7, .slice a8 n8 c8, .int .i64 x9] w fun e w' => e = .returned (.bool (sumOk (n0 + n3 + n5 + n6 + n7 + n8))) ∧ w' = w := by
  go_enter Try.func20, Try.ntmps20
  go_wp2
  all_goals
    go_ret
    exact ⟨ret_bool (by first | exact sumOk_yes (by omega) | exact sumOk_no (by omega)), rfl⟩

set_option maxHeartbeats 1000000 in
theorem zz24_any (a0 : Option Addr) (n0 c0 : Nat) (x1 : Int) (x2 : Int) (a3 : Option Addr) (n3 c3 : Nat) (x4 : Int) (a5 : Option Addr) (n5 c5 : Nat) (a6 : Option Addr) (n6 c6 : Nat) (a7 : Option Addr) (n7 c7 : Nat) (a8 : Option Addr) (n8 c8 : Nat) (x9 : Int) (a10 : Option Addr) (n10 c10 : Nat) (x11 : Int) (w : World) (h0 : n0 ≤ 9223372036854775807) (h3 : n3 ≤ 9223372036854775807) (h5 : n5 ≤ 9223372036854775807) (h6 : n6 ≤ 9223372036854775807) (h7 : n7 ≤ 9223372036854775807) (h8 : n8 ≤ 9223372036854775807) (h10 : n10 ≤ 9223372036854775807) :
    Calls Try.prog 24 #[.slice a0 n0 c0, .int .i64 x1, .int .i64 x2, .slice a3 n3 c3, .int .i64 x4, .slice a5 n5 c5, .slice a6 n6 c6, .slice a7 n7 c7, .slice a8 n8 c8, .int .i64 x9, .slice a10 n10 c10, .int .i64 x11] w fun e w' => e = .returned (.bool (sumOk (n0 + n3 + n5 + n6 + n7 + n8 + n10))) ∧ w' = w := by
  go_enter Try.func24, Try.ntmps24
  go_wp2
  all_goals
    go_ret
    exact ⟨ret_bool (by first | exact sumOk_yes (by omega) | exact sumOk_no (by omega)), rfl⟩

set_option maxHeartbeats 1000000 in
theorem zz26_any (a0 : Option Addr) (n0 c0 : Nat) (x1 : Int) (x2 : Int) (a3 : Option Addr) (n3 c3 : Nat) (x4 : Int) (a5 : Option Addr) (n5 c5 : Nat) (a6 : Option Addr) (n6 c6 : Nat) (a7 : Option Addr) (n7 c7 : Nat) (a8 : Option Addr) (n8 c8 : Nat) (x9 : Int) (w : World) (h0 : n0 ≤ 9223372036854775807) (h3 : n3 ≤ 9223372036854775807) (h5 : n5 ≤ 9223372036854775807) (h6 : n6 ≤ 9223372036854775807) (h7 : n7 ≤ 9223372036854775807) (h8 : n8 ≤ 9223372036854775807) :
    Calls Try.prog 26 #[.slice a0 n0 c0, .int .i64 x1, .int .i64 x2, .slice a3 n3 c3, .int .i64 x4, .slice a5 n5 c5, .slice a6 n6 c6, .slice a7 n7 c7, .slice a8 n8 c8, .int .i64 x9] w fun e w' => e = .returned (.bool (sumOk (n0 + n3 + n5 + n6 + n7 + n8))) ∧ w' = w := by
  go_enter Try.func26, Try.ntmps26
  go_wp2
  all_goals
    go_ret
    exact ⟨ret_bool (by first | exact sumOk_yes (by omega) | exact sumOk_no (by omega)), rfl⟩

set_option maxHeartbeats 1000000 in
theorem zz28_any (a0 : Option Addr) (n0 c0 : Nat) (x1 : Int) (x2 : Int) (a3 : Option Addr) (n3 c3 : Nat) (x4 : Int) (a5 : Option Addr) (n5 c5 : Nat) (a6 : Option Addr) (n6 c6 : Nat) (a7 : Option Addr) (n7 c7 : Nat) (a8 : Option Addr) (n8 c8 : Nat) (a9 : Option Addr) (n9 c9 : Nat) (w : World) (h0 : n0 ≤ 9223372036854775807) (h3 : n3 ≤ 9223372036854775807) (h5 : n5 ≤ 9223372036854775807) (h6 : n6 ≤ 9223372036854775807) (h7 : n7 ≤ 9223372036854775807) (h8 : n8 ≤ 9223372036854775807) (h9 : n9 ≤ 9223372036854775807) :
    Calls Try.prog 28 #[.slice a0 n0 c0, .int .i64 x1, .int .i64 x2, .slice a3 n3 c3, .int .i64 x4, .slice a5 n5 c5, .slice a6 n6 c6, .slice a7 n7 c7, .slice a8 n8 c8, .slice a9 n9 c9] w fun e w' => e = .returned (.bool (sumOk (n0 + n3 + n5 + n6 + n7 + n8 + n9))) ∧ w' = w := by
  go_enter Try.func28, Try.ntmps28
  go_wp2
  all_goals
    go_ret
    exact ⟨ret_bool (by first | exact sumOk_yes (by omega) | exact sumOk_no (by omega)), rfl⟩
end Go.Proofs.Qxb6602173a
