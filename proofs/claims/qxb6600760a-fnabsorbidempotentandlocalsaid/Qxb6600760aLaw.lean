import Derived.Test.Qxb6600760aState
import Derived.Test.Qxb6600760aAbs
namespace Go.Proofs.Qxb6600760a
open Go.RowKit
set_option linter.unusedVariables false
set_option linter.unusedSimpArgs false

/-- A slice of pairs that came in, of whatever length. -/
def RdS0 (w : World) (a : Option Addr) (n : Nat) (ss : List (Int × Int)) : Prop :=
  ss.length = n ∧ n ≤ 9223372036854775807 ∧ ∀ i, i < n → ∃ b off p, a = some ⟨b, off, none⟩ ∧ ss[i]? = some p ∧ w.cell? ⟨b, off + i * 2, none⟩ = some (.int .u64 p.1) ∧ w.cell? ⟨b, off + i * 2 + 1, none⟩ = some (.int .u64 p.2)
theorem RdS0.rd {w : World} {a : Option Addr} {n : Nat} {ss : List (Int × Int)} (h : RdS0 w a n ss) (hn : n ≤ 65536) : RdS w a n ss := ⟨h.1, by omega, h.2.2⟩
theorem sumOk_t {n : Nat} (h : n ≤ 1048576) : sumOk n = true := (sumOk_yes h).symm
theorem sumOk_f {n : Nat} (h : ¬ n ≤ 1048576) : sumOk n = false := (sumOk_no (by omega)).symm
theorem bB {B : Nat} {a b c : World} (h : Below B a b) (k : Below b.heap.size b c) (hB : B ≤ b.heap.size) : Below B a c := h.trans (k.mono hB)
theorem frB {B T : Nat} {a b : World} (h : Fr (fun k => B ≤ k ∧ k < T) a b) (hB : B ≤ a.heap.size) : Below B a b := h.below fun k hk => ⟨by omega, fun e => by have := e.1; omega⟩

set_option maxHeartbeats 4000000 in
theorem law10 (w : World) (rep contig other oContig : Int) (aD aO : Option Addr) (nD cD nO cO : Nat) (sD sO : List (Int × Int)) (hD : RdS0 w aD nD sD) (hO : RdS0 w aO nO sO) (hr : Wf rep) (ho : Wf other) (hoc : 0 ≤ oContig) :
    Calls Try.prog 10 #[.int .u64 rep, .int .u64 contig, .slice aD nD cD, .int .u64 other, .int .u64 oContig, .slice aO nO cO] w fun e w' => e = .returned (.bool true) ∧ Below w.heap.size w w' := by
  have hmD := hD.2.1
  have hmO := hO.2.1
  have HD := hd hD
  have HO := hd hO
  clear hD hO
  go_enter Try.func10, Try.ntmps10
  go_wp2_with fail
  refine Calls.mono (zz_any rep contig other oContig aD nD cD aO nO cO w hmD hmO) ?_
  rintro e w0 ⟨rfl, rfl⟩
  by_cases hs : nD + nO ≤ 1048576
  case neg =>
    rw [sumOk_f hs]
    go_wp2_with fail
    go_ret
    exact ⟨rfl, Below.refl _ _⟩
  rw [sumOk_t hs]
  by_cases q1 : 65536 < nD
  case pos =>
    have q1b : decide ((65536 : Int) < (nD : Int)) = true := by simp; omega
    go_wp2_with fail
    go_ret
    exact ⟨rfl, Below.refl _ _⟩
  have q1b : decide ((65536 : Int) < (nD : Int)) = false := by simp; omega
  by_cases q2 : 65536 < nO
  case pos =>
    have q2b : decide ((65536 : Int) < (nO : Int)) = true := by simp; omega
    go_wp2_with fail
    go_ret
    exact ⟨rfl, Below.refl _ _⟩
  have q2b : decide ((65536 : Int) < (nO : Int)) = false := by simp; omega
  by_cases q3 : 65536 < nD + nO
  case pos =>
    have q3b : decide ((65536 : Int) < (nD : Int) + (nO : Int)) = true := by simp; omega
    go_wp2_with fail
    go_ret
    exact ⟨rfl, Below.refl _ _⟩
  have q3b : decide ((65536 : Int) < (nD : Int) + (nO : Int)) = false := by simp; omega
  by_cases hne : rep = other
  case pos =>
    have hneb : (rep == other) = true := beq_iff_eq.2 hne
    go_wp2_with fail
    go_ret
    exact ⟨rfl, Below.refl _ _⟩
  have hneb : (rep == other) = false := beq_eq_false_iff_ne.2 hne
  have NE := hd hne
  have HD' := hd (HD.out.rd (by omega))
  have HO' := hd (HO.out.rd (by omega))
  clear hne HD HO
  go_wp2_with fail
  refine Calls.mono (split_any aD nD cD sD w0 HD'.out) ?_
  rintro e w1 ⟨fD, lD, rfl, o1, o2, b1⟩
  have V1 := hd b1
  have OF := hd o1
  have OL := hd o2
  clear b1 o1 o2
  go_wp2_with fail
  refine Calls.mono (split_any aO nO cO sO w1 (HO'.out.below V1.out)) ?_
  rintro e w2 ⟨fO, lO, rfl, o1, o2, b1⟩
  have V2 := hd (bl V1.out b1)
  have OF2 := hd (OF.out.below b1)
  have OL2 := hd (OL.out.below b1)
  have PF := hd o1
  have PL := hd o2
  have LD := hd HD'.out.1
  have LO := hd HO'.out.1
  clear b1 o1 o2 OF OL HD' HO' V1
  go_wp2_with fail
  refine Calls.mono (new_any w2) ?_
  rintro e w3 ⟨cb, m1, m2, rfl, c3, b3⟩
  have C3 := hd c3
  have E3 := hd b3
  have hB3 := b3.size
  clear c3 b3
  go_wp2_with fail
  refine Calls.mono (set_any w3 w2.heap.size w3.heap.size cb m1 m2 0 _ _ rep contig fD lD nD nD nD sD C3.out (by omega) hr (OF2.out.rd.below E3.out) (OL2.out.rd.below E3.out) LD.out (fun b off e => (OF2.out.lt e).2) (fun b off e => (OL2.out.lt e).2)) ?_
  rintro e w4 ⟨rfl, ⟨F4, c4⟩, b4⟩
  have C4 := hd c4
  have E4 := hd (E3.out.trans b4)
  clear c4 b4 C3 E3
  have hB4 := E4.out.size
  go_wp2_with fail
  refine Calls.mono (set_any w4 w2.heap.size w4.heap.size cb m1 m2 _ F4 _ other oContig fO lO nO nO nO sO C4.out (by omega) ho (PF.out.rd.below E4.out) (PL.out.rd.below E4.out) LO.out (fun b off e => (PF.out.lt e).2) (fun b off e => (PL.out.lt e).2)) ?_
  rintro e w5 ⟨rfl, ⟨F5, c5⟩, b5⟩
  obtain ⟨st5, h5⟩ : ∃ st5, upd (upd (fun _ => (⟨none, none⟩ : Ent)) rep (laid contig sD)) other (laid oContig sO) = st5 := ⟨_, rfl⟩
  have S5 : Hid (st5 other = laid oContig sO) := by show _ = _; rw [← h5, upd_same]
  rw [h5] at c5
  have C5 := hd c5
  have E5 := hd (E4.out.trans b5)
  clear c5 b5 C4 E4 h5
  have hB5 := E5.out.size
  go_wp2_with fail
  refine Calls.mono (zzabsorb_any w5 w2.heap.size w5.heap.size cb m1 m2 _ F5 st5 rep C5.out (by omega) hr) ?_
  rintro e w6 ⟨rfl, ⟨F6, e6, a6, c6⟩, f6⟩
  have A6 := hd a6
  have C6 := hd c6
  have E6 := hd (E5.out.trans (frB f6 hB5))
  have hT6 := c6.hT
  have hB6 := E6.out.size
  clear a6 c6 f6 C5 E5
  go_wp2_with fail
  refine Calls.mono (state_any w6 w2.heap.size w5.heap.size cb m1 m2 _ F6 _ other oContig fO lO nO nO nO sO C6.out ho hoc (PF.out.rd.below E6.out) (PL.out.rd.below E6.out) LO.out (by rw [upd_other _ _ (fun e => NE.out e.symm)]; exact S5.out)) ?_
  rintro e w7 ⟨rfl, b7⟩
  have C7 := hd (C6.out.below b7)
  have E7 := hd (bB E6.out b7 hB6)
  have hT7 := Nat.le_trans hT6 b7.size
  have hB7 := E7.out.size
  clear b7 C6 E6
  have K8 := rep_any w7 w2.heap.size w5.heap.size cb m1 m2 _ F6 _ rep C7.out hr
  rw [upd_same] at K8
  obtain ⟨cv, hcv⟩ : ∃ c, e6.run.getD 0 = c := ⟨_, rfl⟩
  obtain ⟨bv, hbv⟩ : ∃ c, e6.run.isSome = c := ⟨_, rfl⟩
  obtain ⟨dv, hdv⟩ : ∃ c, e6.det.isSome = c := ⟨_, rfl⟩
  obtain ⟨s6, hs6⟩ : ∃ c, e6.det.getD [] = c := ⟨_, rfl⟩
  rw [hcv, hbv, hdv, hs6] at K8
  have Q6 := hd (And.intro hcv (And.intro hbv (And.intro hdv hs6)))
  clear hcv hbv hdv hs6
  have K8' := hd K8
  clear K8
  go_wp2_with fail
  refine Calls.mono K8'.out ?_
  rintro e w8 ⟨x1, y1, n8, rfl, o1, o2, b8⟩
  have X1 := hd o1
  have Y1 := hd o2
  have C8 := hd (C7.out.below b8)
  have E8 := hd (bB E7.out b8 hB7)
  have hT8 := Nat.le_trans hT7 b8.size
  have hB8 := E8.out.size
  have L8 : Hid (s6.length = n8) := by have := o1.len; rw [u64s_length, List.length_map] at this; exact this
  clear b8 o1 o2 C7 E7 K8'
  go_wp2_with fail
  refine Calls.mono (zzabsorb_any w8 w2.heap.size w5.heap.size cb m1 m2 _ F6 _ rep C8.out (by omega) hr) ?_
  rintro e w9 ⟨rfl, ⟨F9, e9, a9, c9⟩, f9⟩
  rw [upd_same] at a9
  obtain rfl : e9 = e6 := A6.out.again a9
  rw [upd_upd] at c9
  have C9 := hd c9
  have E9 := hd (E8.out.trans (frB f9 hB8))
  have hT9 := c9.hT
  have hB9 := E9.out.size
  have X2 := hd (X1.out.fr f9 fun b e hb => by have := (X1.out.lt e).1; have := hb.2; omega)
  have Y2 := hd (Y1.out.fr f9 fun b e hb => by have := (Y1.out.lt e).1; have := hb.2; omega)
  clear a9 c9 f9 C8 E8 X1 Y1 A6
  have K10 := rep_any w9 w2.heap.size w5.heap.size cb m1 m2 _ F9 _ rep C9.out hr
  rw [upd_same, Q6.out.1, Q6.out.2.1, Q6.out.2.2.1, Q6.out.2.2.2] at K10
  have K10' := hd K10
  clear K10
  go_wp2_with fail
  refine Calls.mono K10'.out ?_
  rintro e w10 ⟨x2, y2, n10, rfl, o1, o2, b10⟩
  obtain rfl : n10 = n8 := by have := o1.len; rw [u64s_length, List.length_map] at this; have := L8.out; omega
  have X3 := hd o1
  have Y3 := hd o2
  have X4 := hd (X2.out.below b10)
  have Y4 := hd (Y2.out.below b10)
  have C10 := hd (C9.out.below b10)
  have E10 := hd (bB E9.out b10 hB9)
  clear o1 o2 b10 C9 E9 X2 Y2 K10'
  go_wp2_with fail
  refine Calls.mono (same_yes x1 x2 _ _ _ _ w10 X4.out.rd X3.out.rd) ?_
  rintro e w11 ⟨rfl, q, rfl⟩
  go_wp2_with fail
  refine Calls.mono (same_yes y1 y2 _ _ _ _ (w10.drewN q) (Y4.out.rd.drewN q) (Y3.out.rd.drewN q)) ?_
  rintro e w12 ⟨rfl, q2, rfl⟩
  have C12 := hd (C10.out.drewN (q + q2))
  have E12 := hd (below_drewN E10.out (q + q2))
  clear C10 E10
  go_wp2_with fail
  refine Calls.mono (state_any (w10.drewN (q + q2)) w2.heap.size w5.heap.size cb m1 m2 _ F9 _ other oContig fO lO nO nO nO sO C12.out ho hoc (PF.out.rd.below E12.out) (PL.out.rd.below E12.out) LO.out (by rw [upd_other _ _ (fun e => NE.out e.symm)]; exact S5.out)) ?_
  rintro e w13 ⟨rfl, b13⟩
  have E13 := hd (bl V2.out (bB E12.out b13 E12.out.size))
  clear b13 C12 E12
  go_wp2_with fail
  go_ret
  exact ⟨rfl, E13.out⟩
end Go.Proofs.Qxb6600760a
