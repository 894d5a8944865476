import Derived.Test.Qxb6602173aPick2
import Derived.Test.Qxb6602173aPm
namespace Go.Proofs.Qxb6602173a
open Go.RowKit
set_option linter.unusedVariables false
set_option linter.unusedSimpArgs false

set_option maxHeartbeats 400000 in
theorem take_miss (pb gS n cS : Nat) (x act : Int) (w : World) (hx0 : 0 ≤ x) (hx1 : x < n) (hn : n ≤ 16777216) (ha0 : 0 ≤ act) (ha1 : act ≤ 16777216) (hne : ¬ gS = pb)
    (h0 : w.cell? ⟨pb, 0, none⟩ = some (.slice (some ⟨gS, 0, none⟩) n cS)) (h2 : w.cell? ⟨pb, 2, none⟩ = some (.int .i64 act)) (f2 : w.frozen? ⟨pb, 2, none⟩ = false)
    (hc : w.cell? ⟨gS, x.toNat, none⟩ = some (.int .u8 0)) (fc : w.frozen? ⟨gS, x.toNat, none⟩ = false) :
    Calls Try.prog 43 #[.pointer (some ⟨pb, 0, none⟩), .int .i64 x] w fun e w' => e = .returned (.tuple #[]) ∧ w' = (w.setCell ⟨gS, x.toNat, none⟩ (.int .u8 1)).setCell ⟨pb, 2, none⟩ (.int .i64 (act + 1)) := by
  have hne' : ¬ pb = gS := fun h => hne h.symm
  go_enter Try.func43, Try.ntmps43
  go_wp2
  go_end0
  exact ⟨rfl, rfl⟩

set_option maxHeartbeats 400000 in
theorem take_act (pb gS gC n cS m cC : Nat) (x y : Int) (w : World) (hx0 : 0 ≤ x) (hx1 : x < n) (hx2 : x < m) (hn : n ≤ 16777216) (hy : (y == 0) = false) (v : Value)
    (h0 : w.cell? ⟨pb, 0, none⟩ = some (.slice (some ⟨gS, 0, none⟩) n cS)) (h3 : w.cell? ⟨pb, 3, none⟩ = some (.slice (some ⟨gC, 0, none⟩) m cC))
    (hc : w.cell? ⟨gS, x.toNat, none⟩ = some (.int .u8 y)) (hd : w.cell? ⟨gC, x.toNat, none⟩ = some v) (fc : w.frozen? ⟨gC, x.toNat, none⟩ = false) :
    Calls Try.prog 43 #[.pointer (some ⟨pb, 0, none⟩), .int .i64 x] w fun e w' => e = .returned (.tuple #[]) ∧ w' = w.setCell ⟨gC, x.toNat, none⟩ (.bool true) := by
  go_enter Try.func43, Try.ntmps43
  go_wp2
  go_end0
  exact ⟨rfl, rfl⟩

/-- take, on the fields. -/
def takeF (P : Pk) (x : Int) : Pk := if P.st.getD x.toNat 0 = 0 then { P with st := P.st.set x.toNat 1, act := P.act + 1 } else { P with sec := P.sec.set x.toNat true }

def pickFr (pb : Nat) (D : Ad) (k : Nat) : Prop := k = pb ∨ D.s = some ⟨k, 0, none⟩ ∨ D.c = some ⟨k, 0, none⟩

theorem take_pm (w : World) (B pb : Nat) (D : Ad) (P : Pk) (x : Int) (hM : PM w B pb D P) (hx0 : 0 ≤ x) (hx1 : x < P.st.length) (hsec : P.sec.length = P.st.length) (ha0 : 0 ≤ P.act) (ha1 : P.act ≤ 16777216) :
    Calls Try.prog 43 #[.pointer (some ⟨pb, 0, none⟩), .int .i64 x] w fun e w' => e = .returned (.tuple #[]) ∧ PM w' B pb D (takeF P x) ∧ Fr (pickFr pb D) w w' := by
  obtain ⟨c0, c1, c2, c3, c4, c5, c6, c7, c8⟩ := hM.box.cells
  have hn := hM.s.small
  obtain ⟨g, y, eg, hB, hne, hy, hc, hfz, hset⟩ := hM.setSt (i := x.toNat) (by omega)
  by_cases hy0 : y = 0
  · subst hy0
    rw [eg] at c0
    refine (take_miss pb g P.st.length D.cs x P.act w hx0 hx1 hn ha0 ha1 hne c0 c2 (hM.box.free 2) hc hfz).mono ?_
    rintro e w' ⟨rfl, rfl⟩
    refine ⟨rfl, ?_, ?_⟩
    · have e1 : takeF P x = { P with st := P.st.set x.toNat 1, act := P.act + 1 } := by unfold takeF; rw [if_pos (by rw [List.getD, hy]; rfl)]
      rw [e1]
      exact (hset 1).setAct (P.act + 1)
    · exact ((fr_setCell w g _ _).mono fun k _ hk => by subst hk; exact .inr (.inl eg)).trans ((fr_setCell _ pb 2 _).mono fun k _ hk => .inl hk)
  · obtain ⟨g2, y2, eg2, hB2, hne2, hy2, hc2, hfz2, hset2⟩ := hM.setSec (i := x.toNat) (by omega)
    rw [eg] at c0
    rw [eg2] at c3
    refine (take_act pb g g2 P.st.length D.cs P.sec.length D.cc x y w hx0 hx1 (by omega) hn (beq_eq_false_iff_ne.2 hy0) _ c0 c3 hc hc2 hfz2).mono ?_
    rintro e w' ⟨rfl, rfl⟩
    refine ⟨rfl, ?_, ?_⟩
    · have e1 : takeF P x = { P with sec := P.sec.set x.toNat true } := by unfold takeF; rw [if_neg (by rw [List.getD, hy]; exact hy0)]
      rw [e1]
      exact hset2 true
    · exact (fr_setCell w g2 _ _).mono fun k _ hk => by subst hk; exact .inr (.inr eg2)

/-- Pick, on the fields. -/
def shareF (P : Pk) (nf : Nat) (queue : Int) : Bool := decide ((((P.st.length : Int) - P.ver) * queue + P.que - 1) / P.que ≤ nf)
def searchF (P : Pk) (has fet : List Int) : Option Int :=
  match (P.ord.drop (endF P.starts P.ord.length 0).toNat).find? (wantF P.st has) with
  | some x => some x
  | none => copyR P.act P.ord.length ((P.ord.drop (endF P.starts P.ord.length 0).toNat).find? (wantC P.sec has fet))
def pickF (P : Pk) (has fet : List Int) (queue : Int) : Option Int := if shareF P fet.length queue then none else searchF P has fet
def pickedF (P : Pk) (r : Option Int) : Pk := match r with | none => P | some x => takeF P x

/-- What Pick asks of the Picker. -/
structure Pickable (P : Pk) (nb : Nat) : Prop where
  sec : P.sec.length = P.st.length
  v0 : 0 ≤ P.ver
  v1 : P.ver ≤ P.st.length
  q1 : 1 ≤ P.que
  q2 : P.que ≤ 1073741824
  a0 : 0 ≤ P.act
  a1 : P.act ≤ 16777216
  e0 : 0 ≤ endF P.starts P.ord.length 0
  e1 : endF P.starts P.ord.length 0 ≤ P.ord.length
  inn : ∀ x ∈ P.ord, 0 ≤ x ∧ x < P.st.length ∧ x < 8 * nb

theorem copyR_some {act : Int} {l : Nat} {r : Option Int} {x : Int} (h : copyR act l r = some x) : r = some x := by
  unfold copyR at h
  split at h
  · exact h
  · cases h
theorem find_in {l : List Int} {s : Nat} {p : Int → Bool} {x : Int} (h : (l.drop s).find? p = some x) : x ∈ l := List.mem_of_mem_drop (List.mem_of_find?_eq_some h)

theorem found_some (x : Int) : found (some x) = .returned (.tuple #[.int .i64 x, .bool true]) := rfl
theorem found_none : found none = .returned (.tuple #[.int .i64 0, .bool false]) := rfl

set_option maxHeartbeats 400000 in
theorem pick_pm (w : World) (B pb : Nat) (D : Ad) (P : Pk) (aB aF : Option Addr) (nb cB nf cF : Nat) (has fet : List Int) (queue : Int) (hM : PM w B pb D P) (hP : Pickable P nb) (hB : Rd w aB nb (u8s has)) (hF : Rd w aF nf (ints fet)) (hq0 : 0 ≤ queue) (hq1 : queue ≤ 1073741824) :
    Calls Try.prog 16 #[.pointer (some ⟨pb, 0, none⟩), .slice aB nb cB, .slice aF nf cF, .int .i64 queue] w fun e w' => e = found (pickF P has fet queue) ∧ PM w' B pb D (pickedF P (pickF P has fet queue)) ∧ Fr (pickFr pb D) w w' := by
  obtain ⟨c0, c1, c2, c3, c4, c5, c6, c7, c8⟩ := hM.box.cells
  obtain ⟨s, hs⟩ := Int.eq_ofNat_of_zero_le hP.e0
  have hsl : s ≤ P.ord.length := by have := hP.e1; omega
  have hn := hM.s.small
  have hnf : fet.length = nf := by have := hF.len; rwa [ints_length] at this
  have hms := hP.v1
  have hm0 : 0 ≤ ((P.st.length : Int) - P.ver) * queue := Int.mul_nonneg (by omega) hq0
  have hm1 : ((P.st.length : Int) - P.ver) * queue ≤ 100000000000000000 := by
    have : ((P.st.length : Int) - P.ver) * queue ≤ 16777216 * 1073741824 := Int.mul_le_mul (by have := hP.v0; omega) hq1 hq0 (by omega)
    omega
  have k40 : ∀ q, Calls Try.prog 40 #[.pointer (some ⟨pb, 0, none⟩), .slice aF nf cF, .int .i64 queue] (w.drewN q) fun e w' => e = .returned (.bool (shareF P fet.length queue)) ∧ ∃ n, w' = (w.drewN q).drewN n := by
    intro q
    rw [hnf]
    exact hasShare_any pb D.s aF P.st.length D.cs nf cF P.ver P.que queue (w.drewN q) hn hP.v0 hP.v1 hP.q1 hP.q2 hm0 hm1 c0 c1 c4
  have hocap : P.ord.length ≤ D.co := hM.o.2.1
  have ho0 : D.o = none → D.co = 0 := by
    intro e
    rcases hM.o.2.2.2.2 with h | ⟨g, r, h, _⟩
    · exact h.2
    · rw [e] at h; cases h
  have k41 : ∀ q, Calls Try.prog 41 #[.pointer (some ⟨pb, 0, none⟩), .slice aB nb cB] (w.drewN q) fun e w' => e = found ((P.ord.drop s).find? (wantF P.st has)) ∧ ∃ n, w' = (w.drewN q).drewN n := fun q =>
    find_any pb D.s aB D.o D.t P.st.length D.cs nb cB P.ord.length D.co P.starts.length D.ct P.st has P.ord P.starts s (w.drewN q) c0 c6 c8 hM.s.rd hB hM.o.rd hM.t.rd hocap ho0 hs hsl hP.inn
  have k42 : ∀ q, Calls Try.prog 42 #[.pointer (some ⟨pb, 0, none⟩), .slice aB nb cB, .slice aF nf cF] (w.drewN q) fun e w' => e = found (copyR P.act P.ord.length ((P.ord.drop s).find? (wantC P.sec has fet))) ∧ ∃ n, w' = (w.drewN q).drewN n := fun q =>
    findCopy_any pb D.c aB aF D.o D.t P.act P.sec.length D.cc nb cB nf cF P.ord.length D.co P.starts.length D.ct P.sec has fet P.ord P.starts s (w.drewN q) c2 c3 c6 c8 hM.c.rd hB hF hM.o.rd hM.t.rd hocap ho0 hs hsl (by rw [hP.sec]; exact hP.inn)
  have k43 : ∀ q x, x ∈ P.ord → Calls Try.prog 43 #[.pointer (some ⟨pb, 0, none⟩), .int .i64 x] (w.drewN q) fun e w' => e = .returned (.tuple #[]) ∧ PM w' B pb D (takeF P x) ∧ Fr (pickFr pb D) w w' := fun q x hx =>
    (take_pm (w.drewN q) B pb D P x (hM.drewN q) (hP.inn x hx).1 (hP.inn x hx).2.1 hP.sec hP.a0 hP.a1).mono fun e w' ⟨he, hm, hf⟩ => ⟨he, hm, (Fr.drewN _ w q).trans hf⟩
  cases hsh : shareF P fet.length queue with
  | true =>
    have hpk : pickF P has fet queue = none := by unfold pickF; rw [hsh]; rfl
    rw [hpk]
    have K : Hid _ := k40
    rw [hsh] at K
    have HM : Hid _ := hM
    clear k40 k41 k42 k43 c0 c1 c2 c3 c4 c5 c6 c7 c8 hM hP hB hF hs hsh hpk hm0 hm1 ho0 hocap hms hnf
    go_enter Try.func16, Try.ntmps16
    go_wp2_with (go_at_call 40; refine (K.out 0).mono ?_; rintro e w' ⟨rfl, m, rfl⟩)
    go_ret2
    exact ⟨rfl, HM.out.drewN _, Fr.drewN _ _ _⟩
  | false =>
    have hpk : pickF P has fet queue = searchF P has fet := by unfold pickF; rw [hsh]; rfl
    rw [hpk]
    have K : Hid _ := k40
    rw [hsh] at K
    have hse : (endF P.starts P.ord.length 0).toNat = s := by rw [hs]; rfl
    cases hf1 : (P.ord.drop s).find? (wantF P.st has) with
    | some x =>
      have hr : searchF P has fet = some x := by unfold searchF; rw [hse, hf1]
      rw [hr]
      have K1 : Hid _ := k41
      rw [hf1] at K1
      have K3 : Hid _ := fun q => k43 q x (find_in hf1)
      clear k40 k41 k42 k43 c0 c1 c2 c3 c4 c5 c6 c7 c8 hM hP hB hF hs hsh hpk hm0 hm1 ho0 hocap hms hnf hse hr hf1
      go_enter Try.func16, Try.ntmps16
      go_wp2_with (first | (go_at_call 40; refine (K.out 0).mono ?_; rintro e w' ⟨rfl, m, rfl⟩) | (go_at_call 41; refine (K1.out _).mono ?_; rintro e w' ⟨rfl, m2, rfl⟩; rw [found_some]) | (go_at_call 43; refine (K3.out _).mono ?_; rintro e w' ⟨rfl, hm, hf⟩))
      go_ret2
      exact ⟨rfl, by assumption, by assumption⟩
    | none =>
      have K1 : Hid _ := k41
      rw [hf1] at K1
      have K2 : Hid _ := k42
      cases hf2 : copyR P.act P.ord.length ((P.ord.drop s).find? (wantC P.sec has fet)) with
      | some x =>
        have hr : searchF P has fet = some x := by unfold searchF; rw [hse, hf1]; exact hf2
        rw [hr]
        rw [hf2] at K2
        have K3 : Hid _ := fun q => k43 q x (find_in (copyR_some hf2))
        clear k40 k41 k42 k43 c0 c1 c2 c3 c4 c5 c6 c7 c8 hM hP hB hF hs hsh hpk hm0 hm1 ho0 hocap hms hnf hse hr hf1 hf2
        go_enter Try.func16, Try.ntmps16
        go_wp2_with (first | (go_at_call 40; refine (K.out 0).mono ?_; rintro e w' ⟨rfl, m, rfl⟩) | (go_at_call 41; refine (K1.out _).mono ?_; rintro e w' ⟨rfl, m2, rfl⟩; rw [found_none]) | (go_at_call 42; refine (K2.out _).mono ?_; rintro e w' ⟨rfl, m2, rfl⟩; rw [found_some]) | (go_at_call 43; refine (K3.out _).mono ?_; rintro e w' ⟨rfl, hm, hf⟩))
        go_ret2
        exact ⟨rfl, by assumption, by assumption⟩
      | none =>
        have hr : searchF P has fet = none := by unfold searchF; rw [hse, hf1]; exact hf2
        rw [hr]
        rw [hf2] at K2
        have HM : Hid _ := hM
        clear k40 k41 k42 k43 c0 c1 c2 c3 c4 c5 c6 c7 c8 hM hP hB hF hs hsh hpk hm0 hm1 ho0 hocap hms hnf hse hr hf1 hf2
        go_enter Try.func16, Try.ntmps16
        go_wp2_with (first | (go_at_call 40; refine (K.out 0).mono ?_; rintro e w' ⟨rfl, m, rfl⟩) | (go_at_call 41; refine (K1.out _).mono ?_; rintro e w' ⟨rfl, m2, rfl⟩; rw [found_none]) | (go_at_call 42; refine (K2.out _).mono ?_; rintro e w' ⟨rfl, m2, rfl⟩; rw [found_none]))
        go_ret2
        exact ⟨rfl, HM.out.drewN _, Fr.drewN _ _ _⟩
end Go.Proofs.Qxb6602173a
