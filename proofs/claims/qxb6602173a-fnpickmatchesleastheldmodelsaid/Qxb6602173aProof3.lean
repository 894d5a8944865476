/-
  'FnPickMatchesLeastHeldModel': the row out of the walk (law3).
-/
import Derived.Test.Qxb6602173aLaw3
import Derived.Test.Qxb6602173aRow
namespace Go.Proofs.Qxb6602173a.law3
open Go.ChangeShapes Go.WideShapes Go.ChangeAt Go.RowKit
set_option linter.unusedVariables false

set_option maxRecDepth 100000 in
theorem lifted (os : Os) (started : os.Started) (H : Type) (enc : TypeId × Value → H) :
    ReturnsInHanded {} Try.checked os 3 .any (Rows.fnPickMatchesLeastHeldModelSpec.pre6 enc Try.prog Try.f3 Rows.fnPickMatchesLeastHeldModelRow.domain false) (Rows.fnPickMatchesLeastHeldModelSpec.post enc Try.prog Try.f3 false true false false) := by
  refine returnsInHanded_of_change (C := Try.checked) own started (by kernel_rfl) Try.func3
    (ChangeSpec.witness6 (enc := enc) (C := Try.checked) false ⟨#[], #[.slice none 0 0, .int .i64 0, .int .i64 0, .slice none 0 0, .int .i64 0, .slice none 0 0, .slice none 0 0, .slice none 0 0, .slice none 0 0, .slice none 0 0, .slice none 0 0, .int .i64 0], []⟩ 8 (by kernel_rfl) (by kernel_rfl) (by kernel_rfl) (by kernel_rfl)) ?_
  intro W base args ds gs before hval0 hW hcnd _
  have hval : ∀ (j : Nat) t v, Try.f3.params[j]? = some t → args[j]? = some v → Value.okWide Try.prog W .any base t v := hval0
  have hW' := hW
  obtain ⟨p, q, hA0, hV, rfl, hfz, hnd⟩ := hW
  have hA : DataW.TrodAll enc Try.prog W 0 (fun _ => true) true Try.f3.params.toList args.toList ds p := hA0
  rw [Try.params3] at hA hval
  obtain ⟨v0, vs0, d0, ds0, p0, q0, hargs, rfl, rfl, h0, r0⟩ := trodAll_cons hA
  obtain ⟨v1, vs1, d1, ds1, p1, q1, rfl, rfl, rfl, h1, r1⟩ := trodAll_cons r0
  obtain ⟨v2, vs2, d2, ds2, p2, q2, rfl, rfl, rfl, h2, r2⟩ := trodAll_cons r1
  obtain ⟨v3, vs3, d3, ds3, p3, q3, rfl, rfl, rfl, h3, r3⟩ := trodAll_cons r2
  obtain ⟨v4, vs4, d4, ds4, p4, q4, rfl, rfl, rfl, h4, r4⟩ := trodAll_cons r3
  obtain ⟨v5, vs5, d5, ds5, p5, q5, rfl, rfl, rfl, h5, r5⟩ := trodAll_cons r4
  obtain ⟨v6, vs6, d6, ds6, p6, q6, rfl, rfl, rfl, h6, r6⟩ := trodAll_cons r5
  obtain ⟨v7, vs7, d7, ds7, p7, q7, rfl, rfl, rfl, h7, r7⟩ := trodAll_cons r6
  obtain ⟨v8, vs8, d8, ds8, p8, q8, rfl, rfl, rfl, h8, r8⟩ := trodAll_cons r7
  obtain ⟨v9, vs9, d9, ds9, p9, q9, rfl, rfl, rfl, h9, r9⟩ := trodAll_cons r8
  obtain ⟨v10, vs10, d10, ds10, p10, q10, rfl, rfl, rfl, h10, r10⟩ := trodAll_cons r9
  obtain ⟨v11, vs11, d11, ds11, p11, q11, rfl, rfl, rfl, h11, r11⟩ := trodAll_cons r10
  obtain ⟨rfl, rfl, rfl⟩ := trodAll_nil r11
  obtain rfl : args = #[v0, v1, v2, v3, v4, v5, v6, v7, v8, v9, v10, v11] := by cases args; simp_all
  obtain ⟨rfl, rfl⟩ := trodVars_none hV
  obtain ⟨a0, len0, cap0, rfl⟩ := okWide_slice Try.underlying22 (hval 0 22 v0 rfl rfl)
  have k0 := h0
  have lt0 : ∀ x ∈ p0, x.block < W.heap.size := by obtain ⟨m, hm⟩ := k0; exact DataW.trod_lt m _ _ _ hm
  obtain ⟨z0, e0, g0⟩ : ∃ zs : List Int, len0 = zs.length ∧ Rd0 W a0 len0 (u8s zs) := by
    obtain ⟨fuel, hf⟩ := h0
    exact row_ints (k := .u8) Try.underlying22 Try.underlying5 (by kernel_rfl) hf
  subst e0
  obtain ⟨x1, rfl, rfl, rfl, w1⟩ := open_int Try.underlying3 (hval 1 3 v1 rfl rfl) h1
  obtain ⟨x2, rfl, rfl, rfl, w2⟩ := open_int Try.underlying3 (hval 2 3 v2 rfl rfl) h2
  obtain ⟨a3, len3, cap3, rfl⟩ := okWide_slice Try.underlying23 (hval 3 23 v3 rfl rfl)
  have k3 := h3
  have lt3 : ∀ x ∈ p3, x.block < W.heap.size := by obtain ⟨m, hm⟩ := k3; exact DataW.trod_lt m _ _ _ hm
  obtain ⟨z3, e3, g3⟩ : ∃ zs : List Bool, len3 = zs.length ∧ Rd0 W a3 len3 (bools zs) := by
    obtain ⟨fuel, hf⟩ := h3
    exact row_bools Try.underlying23 Try.underlying4 (by kernel_rfl) hf
  subst e3
  obtain ⟨x4, rfl, rfl, rfl, w4⟩ := open_int Try.underlying3 (hval 4 3 v4 rfl rfl) h4
  obtain ⟨a5, len5, cap5, rfl⟩ := okWide_slice Try.underlying24 (hval 5 24 v5 rfl rfl)
  have k5 := h5
  have lt5 : ∀ x ∈ p5, x.block < W.heap.size := by obtain ⟨m, hm⟩ := k5; exact DataW.trod_lt m _ _ _ hm
  obtain ⟨z5, e5, g5⟩ : ∃ zs : List Int, len5 = zs.length ∧ Rd0 W a5 len5 (ints zs) := by
    obtain ⟨fuel, hf⟩ := h5
    exact row_ints (k := .i64) Try.underlying24 Try.underlying3 (by kernel_rfl) hf
  subst e5
  obtain ⟨a6, len6, cap6, rfl⟩ := okWide_slice Try.underlying24 (hval 6 24 v6 rfl rfl)
  have k6 := h6
  have lt6 : ∀ x ∈ p6, x.block < W.heap.size := by obtain ⟨m, hm⟩ := k6; exact DataW.trod_lt m _ _ _ hm
  obtain ⟨z6, e6, g6⟩ : ∃ zs : List Int, len6 = zs.length ∧ Rd0 W a6 len6 (ints zs) := by
    obtain ⟨fuel, hf⟩ := h6
    exact row_ints (k := .i64) Try.underlying24 Try.underlying3 (by kernel_rfl) hf
  subst e6
  obtain ⟨a7, len7, cap7, rfl⟩ := okWide_slice Try.underlying24 (hval 7 24 v7 rfl rfl)
  have k7 := h7
  have lt7 : ∀ x ∈ p7, x.block < W.heap.size := by obtain ⟨m, hm⟩ := k7; exact DataW.trod_lt m _ _ _ hm
  obtain ⟨z7, e7, g7⟩ : ∃ zs : List Int, len7 = zs.length ∧ Rd0 W a7 len7 (ints zs) := by
    obtain ⟨fuel, hf⟩ := h7
    exact row_ints (k := .i64) Try.underlying24 Try.underlying3 (by kernel_rfl) hf
  subst e7
  obtain ⟨a8, len8, cap8, rfl⟩ := okWide_slice Try.underlying24 (hval 8 24 v8 rfl rfl)
  have k8 := h8
  have lt8 : ∀ x ∈ p8, x.block < W.heap.size := by obtain ⟨m, hm⟩ := k8; exact DataW.trod_lt m _ _ _ hm
  obtain ⟨z8, e8, g8⟩ : ∃ zs : List Int, len8 = zs.length ∧ Rd0 W a8 len8 (ints zs) := by
    obtain ⟨fuel, hf⟩ := h8
    exact row_ints (k := .i64) Try.underlying24 Try.underlying3 (by kernel_rfl) hf
  subst e8
  obtain ⟨a9, len9, cap9, rfl⟩ := okWide_slice Try.underlying22 (hval 9 22 v9 rfl rfl)
  have k9 := h9
  have lt9 : ∀ x ∈ p9, x.block < W.heap.size := by obtain ⟨m, hm⟩ := k9; exact DataW.trod_lt m _ _ _ hm
  obtain ⟨z9, e9, g9⟩ : ∃ zs : List Int, len9 = zs.length ∧ Rd0 W a9 len9 (u8s zs) := by
    obtain ⟨fuel, hf⟩ := h9
    exact row_ints (k := .u8) Try.underlying22 Try.underlying5 (by kernel_rfl) hf
  subst e9
  obtain ⟨a10, len10, cap10, rfl⟩ := okWide_slice Try.underlying24 (hval 10 24 v10 rfl rfl)
  have k10 := h10
  have lt10 : ∀ x ∈ p10, x.block < W.heap.size := by obtain ⟨m, hm⟩ := k10; exact DataW.trod_lt m _ _ _ hm
  obtain ⟨z10, e10, g10⟩ : ∃ zs : List Int, len10 = zs.length ∧ Rd0 W a10 len10 (ints zs) := by
    obtain ⟨fuel, hf⟩ := h10
    exact row_ints (k := .i64) Try.underlying24 Try.underlying3 (by kernel_rfl) hf
  subst e10
  obtain ⟨x11, rfl, rfl, rfl, w11⟩ := open_int Try.underlying3 (hval 11 3 v11 rfl rfl) h11
  clear hA0 hval0
  refine (law3 ⟨z0, x1, x2, z3, x4, z5, z6, z7, z8⟩ a0 a3 a5 a6 a7 a8 a9 a10 cap0 cap3 cap5 cap6 cap7 cap8 cap9 cap10 z9 z10 x11 W g0 g3 g5 g6 g7 g8 g9 g10).mono fun e W' ⟨he, bel⟩ => ?_
  subst he
  exact ⟨_, rfl, _, _, _, [], _, [], hW', trodAll_mk1 (shut_bool Try.underlying4 _), (trodAll_cons_mk (Below.trod laidOut (by kernel_rfl) (of_decide_eq_true (by kernel_rfl)) k0 bel lt0) (trodAll_cons_mk (shut_int Try.underlying3 w1) (trodAll_cons_mk (shut_int Try.underlying3 w2) (trodAll_cons_mk (Below.trod laidOut (by kernel_rfl) (of_decide_eq_true (by kernel_rfl)) k3 bel lt3) (trodAll_cons_mk (shut_int Try.underlying3 w4) (trodAll_cons_mk (Below.trod laidOut (by kernel_rfl) (of_decide_eq_true (by kernel_rfl)) k5 bel lt5) (trodAll_cons_mk (Below.trod laidOut (by kernel_rfl) (of_decide_eq_true (by kernel_rfl)) k6 bel lt6) (trodAll_cons_mk (Below.trod laidOut (by kernel_rfl) (of_decide_eq_true (by kernel_rfl)) k7 bel lt7) (trodAll_cons_mk (Below.trod laidOut (by kernel_rfl) (of_decide_eq_true (by kernel_rfl)) k8 bel lt8) (trodAll_cons_mk (Below.trod laidOut (by kernel_rfl) (of_decide_eq_true (by kernel_rfl)) k9 bel lt9) (trodAll_cons_mk (Below.trod laidOut (by kernel_rfl) (of_decide_eq_true (by kernel_rfl)) k10 bel lt10) (trodAll_cons_mk (shut_int Try.underlying3 w11) trodAll_mk0)))))))))))), rfl, bel.frame _, fun h => by cases h⟩

theorem over : Rows.fnPickMatchesLeastHeldModelRow.holds Try.pinned (OpenSpec.ofChange Rows.fnPickMatchesLeastHeldModelSpec) :=
  OpenClaim.holds_of_wide 3 Try.f3 rfl rfl rfl rfl rfl rfl rfl ⟨rfl, rfl, rfl, rfl, rfl⟩ rfl rfl rfl rfl rfl (by kernel_rfl) Try.func3 (by kernel_rfl)
    (of_decide_eq_true (by kernel_rfl)) (by unfold Func.isWrapper; first | (rw [if_pos (by decide +kernel)]; kernel_rfl) | (rw [if_neg (by decide +kernel)]; exact ⟨rfl, rfl⟩))
    (fun os started H enc _ => lifted os started H enc)

/-- THE STATEMENT -/
theorem proved : Rows.FnPickMatchesLeastHeldModelSaid := over
#print axioms proved
end Go.Proofs.Qxb6602173a.law3
