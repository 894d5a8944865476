import Derived.Test.Qxb6602173aVerP
import Derived.Deep.RegionWith
import Derived.Deep.RegionHeld3
import Derived.Deep.DrawnRows
namespace Go.Proofs.Qxb6602173a
open Go.RowKit
set_option linter.unusedVariables false
set_option linter.unusedSimpArgs false
attribute [local go_sem ↓] Go.wp_at_zero Go.wp_at_succ

theorem wrap_in {n : Int} (h0 : -9223372036854775808 ≤ n) (h1 : n ≤ 9223372036854775807) : IntKind.i64.wrap n = n := by
  simp only [IntKind.wrap, IntKind.bits, IntKind.signed]
  simp
  omega
theorem hd' {p : Prop} (h : p) : Hid p := h

theorem Own.cut {w : World} {B : Nat} {e : TypeId} {a : Option Addr} {n cap : Nat} {vs : List Value} (h : Own w B e a n cap vs) {m : Nat} (hm : m ≤ n) : Own w B e a m cap (vs.take m) := by
  obtain ⟨hl, hnc, hmx, hs, h⟩ := h
  refine ⟨by rw [List.length_take]; omega, by omega, hmx, by omega, ?_⟩
  rcases h with h | ⟨g, rest, ha, hB, hg, hc⟩
  · exact .inl h
  · refine .inr ⟨g, vs.drop m ++ rest, ha, hB, ?_, ?_⟩
    · rw [← List.append_assoc, List.take_append_drop]; exact hg
    · rw [← List.append_assoc, List.take_append_drop]; exact hc
theorem PM.cut {w : World} {B pb : Nat} {D : Ad} {P : Pk} (h : PM w B pb D P) : PM (w.setCell ⟨pb, 6, none⟩ (.slice D.o (P.ord.length - 1) D.co)) B pb D (cutF P) := by
  have hb := h.box
  unfold Bx at hb
  have hf := fr_setCell w pb 6 (.slice D.o (P.ord.length - 1) D.co)
  have hlen : (cutF P).ord.length = P.ord.length - 1 := by simp [cutF]
  exact { h with
    box := by unfold Bx; rw [heap_setCell_at hb, hlen]; rfl
    s := h.s.fr hf fun b e k => h.s.boxty hb (by decide) (k ▸ e)
    c := h.c.fr hf fun b e k => h.c.boxty hb (by decide) (k ▸ e)
    h := h.h.fr hf fun b e k => h.h.boxty hb (by decide) (k ▸ e)
    o := by
      rw [hlen]
      have := (h.o.fr hf fun b e k => h.o.boxty hb (by decide) (k ▸ e)).cut (m := P.ord.length - 1) (by omega)
      rw [show (ints P.ord).take (P.ord.length - 1) = ints (cutF P).ord from by simp only [ints, cutF, List.map_take]] at this
      exact this
    a := h.a.fr hf fun b e k => h.a.boxty hb (by decide) (k ▸ e)
    t := h.t.fr hf fun b e k => h.t.boxty hb (by decide) (k ▸ e) }

def verFr (pb : Nat) (D : Ad) (k : Nat) : Prop := k = pb ∨ D.s = some ⟨k, 0, none⟩ ∨ D.c = some ⟨k, 0, none⟩ ∨ D.o = some ⟨k, 0, none⟩ ∨ D.a = some ⟨k, 0, none⟩ ∨ D.t = some ⟨k, 0, none⟩

structure VerOk (P : Pk) (x : Int) : Prop where
  x0 : 0 ≤ x
  x1 : x < P.st.length
  sec : P.sec.length = P.st.length
  at_ : P.at_.length = P.st.length
  held : P.held.length = P.st.length
  a0 : 0 ≤ P.act
  a1 : P.act ≤ 16777216
  v0 : 0 ≤ P.ver
  v1 : P.ver ≤ 16777216
  h0 : 0 ≤ heldAt P.held x
  h1 : heldAt P.held x < P.starts.length
  mv : Mv P x (heldAt P.held x).toNat

theorem verHead_mv {P : Pk} {x : Int} {m : Nat} (h : Mv P x m) : Mv (verHead P x) x m := by
  unfold verHead
  split <;> exact ⟨h.inv, h.mem, h.low⟩
theorem verHead_same (P : Pk) (x : Int) : (verHead P x).ord = P.ord ∧ (verHead P x).at_ = P.at_ ∧ (verHead P x).starts = P.starts ∧ (verHead P x).held = P.held ∧ (verHead P x).que = P.que := by
  unfold verHead
  split <;> exact ⟨rfl, rfl, rfl, rfl, rfl⟩

/-- The rest of Verify from the loop's head on, told once: what the loop and the tail do. -/
theorem step_ok {P : Pk} {x : Int} {h j : Nat} (hmv : Mv P x h) (hj : h + j + 1 < P.starts.length) :
    ∃ (q : Nat) (s : Int), atOf (verIter P x h j) x = (q : Int) ∧ (verIter P x h j).at_[x.toNat]? = some (q : Int) ∧ q < (verIter P x h j).ord.length ∧ (verIter P x h j).starts[h + j + 1]? = some s ∧ 1 ≤ s ∧ s ≤ (verIter P x h j).ord.length ∧ startAt (verIter P x h j) (h + j + 1) = s := by
  obtain ⟨a, b, c⟩ := verIter_mv hmv j (by omega)
  obtain ⟨q, _, e1, e2, e3⟩ := a.place
  obtain ⟨s, hs, s1, s2⟩ := a.low (h + j + 1) (by omega) (by rw [b]; omega)
  exact ⟨q, s, e1, e2, e3, hs, s1, s2, getD_of hs⟩

theorem Inv.dist {P : Pk} (h : Inv P) {a b : Int} (ha0 : 0 ≤ a) (ha : a < P.ord.length) (hb0 : 0 ≤ b) (hb : b < P.ord.length) : a ≠ b → P.ord[a.toNat]? ≠ P.ord[b.toNat]? := by
  intro hne e
  obtain ⟨i, hi⟩ := some_of (l := P.ord) (show a.toNat < P.ord.length by omega)
  have := h.inj hi (e ▸ hi)
  omega
theorem Inv.inn {P : Pk} (h : Inv P) : ∀ x ∈ P.ord, 0 ≤ x ∧ x < P.at_.length := by
  intro x hx
  obtain ⟨q, hq⟩ := List.getElem?_of_mem hx
  exact ⟨(h q x hq).1, (h q x hq).2.1⟩

set_option maxHeartbeats 8000000 in
set_option maxRecDepth 100000 in
theorem verify_pm (w : World) (B pb : Nat) (D : Ad) (P : Pk) (x : Int) (hM : PM w B pb D P) (ok : VerOk P x) :
    Calls Try.prog 21 #[.pointer (some ⟨pb, 0, none⟩), .int .i64 x] w fun e w' => e = .returned (.tuple #[]) ∧ PM w' B pb D (verifyF P x) ∧ Fr (verFr pb D) w w' := by
  obtain ⟨c0, c1, c2, c3, c4, c5, c6, c7, c8⟩ := hM.box.cells
  have hn := hM.s.small
  have hk := hM.t.small
  have x0 := ok.x0
  have x1 := ok.x1
  have a0 := ok.a0
  have a1 := ok.a1
  have v0 := ok.v0
  have v1 := ok.v1
  obtain ⟨gS, y, eS, _, n1, hy, cy, fy, sS⟩ := hM.setSt (i := x.toNat) (by omega)
  obtain ⟨gC, z, eC, _, n2, hz, cz, fz, sC⟩ := hM.setSec (i := x.toNat) (by rw [ok.sec]; omega)
  obtain ⟨gH, hv, eH, _, n3, hhv, ch, _, _⟩ := hM.setHeld (i := x.toNat) (by rw [ok.held]; omega)
  have ehv : heldAt P.held x = hv := getD_of hhv
  have h0 := ok.h0
  have h1 := ok.h1
  rw [ehv] at h0 h1
  obtain ⟨h, rfl⟩ := Int.eq_ofNat_of_zero_le h0
  have m1 : ¬ gS = gC := fun e => hM.s.ty hM.c (by decide) gS eS (e ▸ eC)
  have m2 : ¬ gS = gH := fun e => hM.s.ty hM.h (by decide) gS eS (e ▸ eH)
  have m3 : ¬ gC = gH := fun e => hM.c.ty hM.h (by decide) gC eC (e ▸ eH)
  have f1 := hM.box.free 1
  have f2 := hM.box.free 2
  have HM := hd' hM
  have OK := hd' ok
  have hh : (heldAt P.held x).toNat = h := by rw [ehv]; rfl
  have HMV := hd' (hh ▸ ok.mv)
  have HH := hd' hh
  have EY := hd' hy
  have SS := hd' sS
  have SC := hd' sC
  have ES := hd' eS
  have EC := hd' eC
  rw [eS] at c0
  rw [eC] at c3
  rw [eH] at c5
  clear hM ok hy hz hhv ehv hh sS sC eS eC eH h0
  by_cases hy1 : y = 1
  · subst hy1
    have hx2 : x < (P.sec.length : Int) := by rw [OK.out.sec]; exact x1
    have hx3 : x < (P.held.length : Int) := by rw [OK.out.held]; exact x1
    have EV := hd' (show verHead P x = { P with st := P.st.set x.toNat 2, ver := P.ver + 1, act := P.act - 1, sec := P.sec.set x.toNat false } from by unfold verHead; rw [if_pos (getD_of EY.out)])
    go_enter Try.func21, Try.ntmps21
    go_wp2
    obtain ⟨W4, hW4⟩ : ∃ W4, W4 = (((w.setCell ⟨pb, 2, none⟩ (.int .i64 (P.act - 1))).setCell ⟨gC, x.toNat, none⟩ (.bool false)).setCell ⟨gS, x.toNat, none⟩ (.int .u8 2)).setCell ⟨pb, 1, none⟩ (.int .i64 (P.ver + 1)) := ⟨_, rfl⟩
    have HM4 : Hid (PM W4 B pb D (verHead P x)) := by
      show PM W4 B pb D _
      rw [hW4, EV.out]
      have p1 := HM.out.setAct (P.act - 1)
      obtain ⟨g, _, eg, _, _, _, _, _, r2⟩ := p1.setSec (i := x.toNat) (by show _ < P.sec.length; omega)
      rw [EC.out] at eg
      cases eg
      have p2 := r2 false
      obtain ⟨g, _, eg, _, _, _, _, _, r3⟩ := p2.setSt (i := x.toNat) (by show _ < P.st.length; omega)
      rw [ES.out] at eg
      cases eg
      exact (r3 2).setVer (P.ver + 1)
    have HF4 : Hid (Fr (verFr pb D) w W4) := by
      show Fr _ _ _
      rw [hW4]
      exact ((((fr_setCell w pb _ _).mono fun k _ hk => .inl hk).trans ((fr_setCell _ gC _ _).mono fun k _ hk => .inr (.inr (.inl (hk ▸ EC.out))))).trans ((fr_setCell _ gS _ _).mono fun k _ hk => .inr (.inl (hk ▸ ES.out)))).trans ((fr_setCell _ pb _ _).mono fun k _ hk => .inl hk)
    rw [← hW4]
    clear hW4 c0 c1 c2 c3 c4 c5 c6 c7 c8 cy fy cz fz ch f1 f2 SS SC EV
    have hkl : h < P.starts.length := by omega
    go_loopw [4] (fun n wr => ∃ j : Nat, h + j < P.starts.length ∧ n = .int .i64 ((h + j : Nat) : Int) ∧ Hid (PM wr B pb D (verIter (verHead P x) x h j)) ∧ Hid (Fr (verFr pb D) w wr)) (fun n _ => P.starts.length - (intOf n).toNat)
    case atStart => exact ⟨0, hkl, rfl, HM4, HF4⟩
    case round =>
      obtain ⟨j, hj, rfl, HMj, HFj⟩ := hrel
      clear HM4 HF4
      have K := hd' (verIter_mv (verHead_mv HMV.out) j (by rw [(verHead_same P x).2.2.1]; exact hj))
      have LS : Hid ((verIter (verHead P x) x h j).starts.length = P.starts.length) := by show _ = _; rw [K.out.2.1, (verHead_same P x).2.2.1]
      have LO : Hid ((verIter (verHead P x) x h j).ord.length = P.ord.length) := by show _ = _; rw [K.out.2.2, (verHead_same P x).1]
      have LA : Hid ((verIter (verHead P x) x h j).at_.length = P.st.length) := by show _ = _; rw [(verIter_fields (verHead P x) x h j).2.2.2.2.2.2, (verHead_same P x).2.1]; exact OK.out.at_
      obtain ⟨d0, d1, d2, d3, d4, d5, d6, d7, d8⟩ := HMj.out.box.cells
      rw [LS.out] at d8
      rw [LO.out] at d6
      rw [LA.out] at d7
      have hol : P.ord.length ≤ 16777216 := by have := HMj.out.o.small; rw [LO.out] at this; exact this
      have hop : 0 < P.ord.length := by obtain ⟨q, hq⟩ := HMV.out.mem; have := lt_of hq; omega
      clear d0 d1 d2 d3 d4 d5
      generalize hm : h + j = m at hj ⊢
      have EM := hd' hm
      clear hm
      by_cases hlt : m + 1 < P.starts.length
      · obtain ⟨q, s, e1, e2, e3, hs, s1, s2, es⟩ := step_ok (verHead_mv HMV.out) (j := j) (by rw [(verHead_same P x).2.2.1, EM.out]; exact hlt)
        rw [EM.out] at hs es
        obtain ⟨gA, q', eA, _, nA, hq', cA, fA, _⟩ := HMj.out.setAt (i := x.toNat) (by rw [LA.out]; omega)
        rw [e2] at hq'
        cases hq'
        obtain ⟨gT, s', eT, _, nT, hs', cT, fT, _⟩ := HMj.out.setStarts (i := m + 1) (by rw [LS.out]; omega)
        rw [hs] at hs'
        cases hs'
        rw [eA] at d7
        rw [eT] at d8
        have SW : Hid (∀ u, Calls Try.prog 44 #[.pointer (some ⟨pb, 0, none⟩), .int .i64 (q : Int), .int .i64 (s - 1)] (wr.drewN u) fun e w' => e = .returned (.tuple #[]) ∧ PM w' B pb D (swapF (verIter (verHead P x) x h j) (q : Int) (s - 1)) ∧ Fr (swapFr D) wr w') := fun u =>
          (swap_pm (wr.drewN u) B pb D _ (q : Int) (s - 1) (HMj.out.drewN u) (by omega) (by omega) (by omega) (by omega) K.out.1.inv.inn (K.out.1.inv.dist (by omega) (by omega) (by omega) (by omega))).mono fun e w' ⟨he, hm, hf⟩ => ⟨he, hm, (Fr.drewN _ wr u).trans hf⟩
        have ED : Hid (verIter (verHead P x) x h (j + 1) = { swapF (verIter (verHead P x) x h j) (q : Int) (s - 1) with starts := (verIter (verHead P x) x h j).starts.set (m + 1) (s - 1) }) := by
          show dropStep _ _ _ = _
          unfold dropStep
          rw [EM.out, e1, es]
        have s2' : s ≤ (P.ord.length : Int) := by rw [LO.out] at s2; exact s2
        have EHS := hd' hs
        have ETT := hd' eT
        have EAA := hd' eA
        clear e1 e2 e3 hs es s2 eA eT
        have hmk : (m : Int) + 1 < (P.starts.length : Int) := by omega
        have hmk0 : (0 : Int) ≤ (m : Int) + 1 := by omega
        have hw1 : IntKind.i64.wrap ((m : Int) + 1) = (m : Int) + 1 := wrap_in (by omega) (by omega)
        have hw2 : IntKind.i64.wrap (s - 1) = s - 1 := wrap_in (by omega) (by omega)
        have hw3 : ((m : Int) + 1).toNat = m + 1 := by omega
        go_wp2
        go_region_with ((go_at_call 44; refine (SW.out _).mono ?_; rintro e w5 ⟨rfl, hm5, hf5⟩))
        all_goals
          have HM5 := hd' hm5
          have L5 : Hid ((swapF (verIter (verHead P x) x h j) (q : Int) (s - 1)).starts.length = P.starts.length) := LS
          obtain ⟨_, _, _, _, _, _, _, _, b8⟩ := HM5.out.box.cells
          rw [L5.out] at b8
          obtain ⟨gT', s', eT', _, nT', hs', cT', fT', sT'⟩ := HM5.out.setStarts (i := m + 1) (by rw [L5.out]; omega)
          rw [ETT.out] at eT'
          cases eT'
          obtain rfl : s' = s := by have := hs'.symm.trans EHS.out; exact Option.some.inj this
          rw [ETT.out] at b8
          have SX := hd' (sT' (s' - 1))
          have F6 := hd' ((HFj.out.trans (hf5.mono fun k _ hk => hk.elim (fun e => .inr (.inr (.inr (.inl e)))) fun e => .inr (.inr (.inr (.inr (.inl e)))))).trans ((fr_setCell w5 gT (m + 1) (.int .i64 (s' - 1))).mono fun k _ hk => .inr (.inr (.inr (.inr (.inr (hk ▸ ETT.out)))))))
          clear hm5 hf5 hs' sT' d6 d7 d8 cA fA cT fT
          go_wp2
          go_roundw
          case rel => exact ⟨j + 1, by have := EM.out; omega, by rw [show ((h + (j + 1) : Nat) : Int) = (m : Int) + 1 from by have := EM.out; omega], by show PM _ _ _ _ _; rw [ED.out]; exact SX.out, F6⟩
          case measure => simp [intOf]; omega
      · obtain ⟨q, hq, e1, e2, e3⟩ := K.out.1.place
        obtain ⟨gA, q', eA, _, nA, hq', cA, fA, _⟩ := HMj.out.setAt (i := x.toNat) (by rw [LA.out]; omega)
        rw [e2] at hq'
        cases hq'
        obtain ⟨gO, _, eO, _, nO, _, _, _, _⟩ := HMj.out.setOrd (i := 0) (by rw [LO.out]; exact hop)
        rw [eA] at d7
        rw [eO] at d6
        have ej : j = P.starts.length - 1 - h := by have := EM.out; omega
        have SW : Hid (∀ u, Calls Try.prog 44 #[.pointer (some ⟨pb, 0, none⟩), .int .i64 (q : Int), .int .i64 ((P.ord.length : Int) - 1)] (wr.drewN u) fun e w' => e = .returned (.tuple #[]) ∧ PM w' B pb D (swapF (verIter (verHead P x) x h j) (q : Int) ((P.ord.length : Int) - 1)) ∧ Fr (swapFr D) wr w') := fun u =>
          (swap_pm (wr.drewN u) B pb D _ (q : Int) ((P.ord.length : Int) - 1) (HMj.out.drewN u) (by omega) (by omega) (by omega) (by rw [LO.out]; omega) K.out.1.inv.inn (K.out.1.inv.dist (by omega) (by omega) (by omega) (by rw [LO.out]; omega))).mono fun e w' ⟨he, hm, hf⟩ => ⟨he, hm, (Fr.drewN _ wr u).trans hf⟩
        have EF : Hid (verifyF P x = cutF (swapF (verIter (verHead P x) x h j) (q : Int) ((P.ord.length : Int) - 1))) := by
          show _ = _
          unfold verifyF verTail
          rw [HH.out, ← ej, e1, LO.out]
        have EOO := hd' eO
        have hco : P.ord.length ≤ D.co := by have := HMj.out.o.2.1; rw [LO.out] at this; exact this
        clear e1 e2 e3 hq eA eO ej
        have hw2 : IntKind.i64.wrap ((P.ord.length : Int) - 1) = (P.ord.length : Int) - 1 := wrap_in (by omega) (by omega)
        go_wp2
        go_region_with ((go_at_call 44; refine (SW.out _).mono ?_; rintro e w5 ⟨rfl, hm5, hf5⟩))
        all_goals
          have HM5 := hd' hm5
          have L5 : Hid ((swapF (verIter (verHead P x) x h j) (q : Int) ((P.ord.length : Int) - 1)).ord.length = P.ord.length) := by show _ = _; rw [show (swapF (verIter (verHead P x) x h j) (q : Int) ((P.ord.length : Int) - 1)).ord.length = (verIter (verHead P x) x h j).ord.length from by simp [swapF]]; exact LO.out
          obtain ⟨_, _, _, _, _, _, b6, _, _⟩ := HM5.out.box.cells
          have fr6 := HM5.out.box.free 6
          rw [L5.out, EOO.out] at b6
          have PC := hd' HM5.out.cut
          rw [L5.out, EOO.out] at PC
          have F5 := hd' (HFj.out.trans (hf5.mono fun k _ hk => hk.elim (fun e => .inr (.inr (.inr (.inl e)))) fun e => .inr (.inr (.inr (.inr (.inl e))))))
          clear hm5 hf5 d6 d7 d8 cA fA
          have t1 : ((P.ord.length : Int) - 1).toNat = P.ord.length - 1 := by omega
          have t2 : (0 : Int) ≤ (P.ord.length : Int) - 1 := by omega
          have t3 : (P.ord.length : Int) - 1 ≤ (D.co : Int) := by omega
          go_wp2
          go_region
          all_goals go_wp2
          all_goals go_end0
          all_goals exact ⟨rfl, by rw [EF.out]; exact PC.out.drewN 1, (F5.out.trans (Fr.drewN _ _ 1)).trans ((fr_setCell _ pb 6 _).mono fun k _ hk => .inl hk)⟩
  · have EV := hd' (show verHead P x = { P with st := P.st.set x.toNat 2, ver := P.ver + 1 } from by unfold verHead; rw [if_neg (by rw [getD_of EY.out]; exact hy1)])
    have hx3 : x < (P.held.length : Int) := by rw [OK.out.held]; exact x1
    have hyb : (y == 1) = false := beq_eq_false_iff_ne.2 hy1
    clear hy1
    go_enter Try.func21, Try.ntmps21
    go_wp2
    obtain ⟨W4, hW4⟩ : ∃ W4, W4 = (w.setCell ⟨gS, x.toNat, none⟩ (.int .u8 2)).setCell ⟨pb, 1, none⟩ (.int .i64 (P.ver + 1)) := ⟨_, rfl⟩
    have HM4 : Hid (PM W4 B pb D (verHead P x)) := by
      show PM W4 B pb D _
      rw [hW4, EV.out]
      exact (SS.out 2).setVer (P.ver + 1)
    have HF4 : Hid (Fr (verFr pb D) w W4) := by
      show Fr _ _ _
      rw [hW4]
      exact ((fr_setCell _ gS _ _).mono fun k _ hk => .inr (.inl (hk ▸ ES.out))).trans ((fr_setCell _ pb _ _).mono fun k _ hk => .inl hk)
    rw [← hW4]
    clear hW4 c0 c1 c2 c3 c4 c5 c6 c7 c8 cy fy cz fz ch f1 f2 SS SC EV
    have hkl : h < P.starts.length := by omega
    go_loopw [4] (fun n wr => ∃ j : Nat, h + j < P.starts.length ∧ n = .int .i64 ((h + j : Nat) : Int) ∧ Hid (PM wr B pb D (verIter (verHead P x) x h j)) ∧ Hid (Fr (verFr pb D) w wr)) (fun n _ => P.starts.length - (intOf n).toNat)
    case atStart => exact ⟨0, hkl, rfl, HM4, HF4⟩
    case round =>
      obtain ⟨j, hj, rfl, HMj, HFj⟩ := hrel
      clear HM4 HF4
      have K := hd' (verIter_mv (verHead_mv HMV.out) j (by rw [(verHead_same P x).2.2.1]; exact hj))
      have LS : Hid ((verIter (verHead P x) x h j).starts.length = P.starts.length) := by show _ = _; rw [K.out.2.1, (verHead_same P x).2.2.1]
      have LO : Hid ((verIter (verHead P x) x h j).ord.length = P.ord.length) := by show _ = _; rw [K.out.2.2, (verHead_same P x).1]
      have LA : Hid ((verIter (verHead P x) x h j).at_.length = P.st.length) := by show _ = _; rw [(verIter_fields (verHead P x) x h j).2.2.2.2.2.2, (verHead_same P x).2.1]; exact OK.out.at_
      obtain ⟨d0, d1, d2, d3, d4, d5, d6, d7, d8⟩ := HMj.out.box.cells
      rw [LS.out] at d8
      rw [LO.out] at d6
      rw [LA.out] at d7
      have hol : P.ord.length ≤ 16777216 := by have := HMj.out.o.small; rw [LO.out] at this; exact this
      have hop : 0 < P.ord.length := by obtain ⟨q, hq⟩ := HMV.out.mem; have := lt_of hq; omega
      clear d0 d1 d2 d3 d4 d5
      generalize hm : h + j = m at hj ⊢
      have EM := hd' hm
      clear hm
      by_cases hlt : m + 1 < P.starts.length
      · obtain ⟨q, s, e1, e2, e3, hs, s1, s2, es⟩ := step_ok (verHead_mv HMV.out) (j := j) (by rw [(verHead_same P x).2.2.1, EM.out]; exact hlt)
        rw [EM.out] at hs es
        obtain ⟨gA, q', eA, _, nA, hq', cA, fA, _⟩ := HMj.out.setAt (i := x.toNat) (by rw [LA.out]; omega)
        rw [e2] at hq'
        cases hq'
        obtain ⟨gT, s', eT, _, nT, hs', cT, fT, _⟩ := HMj.out.setStarts (i := m + 1) (by rw [LS.out]; omega)
        rw [hs] at hs'
        cases hs'
        rw [eA] at d7
        rw [eT] at d8
        have SW : Hid (∀ u, Calls Try.prog 44 #[.pointer (some ⟨pb, 0, none⟩), .int .i64 (q : Int), .int .i64 (s - 1)] (wr.drewN u) fun e w' => e = .returned (.tuple #[]) ∧ PM w' B pb D (swapF (verIter (verHead P x) x h j) (q : Int) (s - 1)) ∧ Fr (swapFr D) wr w') := fun u =>
          (swap_pm (wr.drewN u) B pb D _ (q : Int) (s - 1) (HMj.out.drewN u) (by omega) (by omega) (by omega) (by omega) K.out.1.inv.inn (K.out.1.inv.dist (by omega) (by omega) (by omega) (by omega))).mono fun e w' ⟨he, hm, hf⟩ => ⟨he, hm, (Fr.drewN _ wr u).trans hf⟩
        have ED : Hid (verIter (verHead P x) x h (j + 1) = { swapF (verIter (verHead P x) x h j) (q : Int) (s - 1) with starts := (verIter (verHead P x) x h j).starts.set (m + 1) (s - 1) }) := by
          show dropStep _ _ _ = _
          unfold dropStep
          rw [EM.out, e1, es]
        have s2' : s ≤ (P.ord.length : Int) := by rw [LO.out] at s2; exact s2
        have EHS := hd' hs
        have ETT := hd' eT
        have EAA := hd' eA
        clear e1 e2 e3 hs es s2 eA eT
        have hmk : (m : Int) + 1 < (P.starts.length : Int) := by omega
        have hmk0 : (0 : Int) ≤ (m : Int) + 1 := by omega
        have hw1 : IntKind.i64.wrap ((m : Int) + 1) = (m : Int) + 1 := wrap_in (by omega) (by omega)
        have hw2 : IntKind.i64.wrap (s - 1) = s - 1 := wrap_in (by omega) (by omega)
        have hw3 : ((m : Int) + 1).toNat = m + 1 := by omega
        go_wp2
        go_region_with ((go_at_call 44; refine (SW.out _).mono ?_; rintro e w5 ⟨rfl, hm5, hf5⟩))
        all_goals
          have HM5 := hd' hm5
          have L5 : Hid ((swapF (verIter (verHead P x) x h j) (q : Int) (s - 1)).starts.length = P.starts.length) := LS
          obtain ⟨_, _, _, _, _, _, _, _, b8⟩ := HM5.out.box.cells
          rw [L5.out] at b8
          obtain ⟨gT', s', eT', _, nT', hs', cT', fT', sT'⟩ := HM5.out.setStarts (i := m + 1) (by rw [L5.out]; omega)
          rw [ETT.out] at eT'
          cases eT'
          obtain rfl : s' = s := by have := hs'.symm.trans EHS.out; exact Option.some.inj this
          rw [ETT.out] at b8
          have SX := hd' (sT' (s' - 1))
          have F6 := hd' ((HFj.out.trans (hf5.mono fun k _ hk => hk.elim (fun e => .inr (.inr (.inr (.inl e)))) fun e => .inr (.inr (.inr (.inr (.inl e)))))).trans ((fr_setCell w5 gT (m + 1) (.int .i64 (s' - 1))).mono fun k _ hk => .inr (.inr (.inr (.inr (.inr (hk ▸ ETT.out)))))))
          clear hm5 hf5 hs' sT' d6 d7 d8 cA fA cT fT
          go_wp2
          go_roundw
          case rel => exact ⟨j + 1, by have := EM.out; omega, by rw [show ((h + (j + 1) : Nat) : Int) = (m : Int) + 1 from by have := EM.out; omega], by show PM _ _ _ _ _; rw [ED.out]; exact SX.out, F6⟩
          case measure => simp [intOf]; omega
      · obtain ⟨q, hq, e1, e2, e3⟩ := K.out.1.place
        obtain ⟨gA, q', eA, _, nA, hq', cA, fA, _⟩ := HMj.out.setAt (i := x.toNat) (by rw [LA.out]; omega)
        rw [e2] at hq'
        cases hq'
        obtain ⟨gO, _, eO, _, nO, _, _, _, _⟩ := HMj.out.setOrd (i := 0) (by rw [LO.out]; exact hop)
        rw [eA] at d7
        rw [eO] at d6
        have ej : j = P.starts.length - 1 - h := by have := EM.out; omega
        have SW : Hid (∀ u, Calls Try.prog 44 #[.pointer (some ⟨pb, 0, none⟩), .int .i64 (q : Int), .int .i64 ((P.ord.length : Int) - 1)] (wr.drewN u) fun e w' => e = .returned (.tuple #[]) ∧ PM w' B pb D (swapF (verIter (verHead P x) x h j) (q : Int) ((P.ord.length : Int) - 1)) ∧ Fr (swapFr D) wr w') := fun u =>
          (swap_pm (wr.drewN u) B pb D _ (q : Int) ((P.ord.length : Int) - 1) (HMj.out.drewN u) (by omega) (by omega) (by omega) (by rw [LO.out]; omega) K.out.1.inv.inn (K.out.1.inv.dist (by omega) (by omega) (by omega) (by rw [LO.out]; omega))).mono fun e w' ⟨he, hm, hf⟩ => ⟨he, hm, (Fr.drewN _ wr u).trans hf⟩
        have EF : Hid (verifyF P x = cutF (swapF (verIter (verHead P x) x h j) (q : Int) ((P.ord.length : Int) - 1))) := by
          show _ = _
          unfold verifyF verTail
          rw [HH.out, ← ej, e1, LO.out]
        have EOO := hd' eO
        have hco : P.ord.length ≤ D.co := by have := HMj.out.o.2.1; rw [LO.out] at this; exact this
        clear e1 e2 e3 hq eA eO ej
        have hw2 : IntKind.i64.wrap ((P.ord.length : Int) - 1) = (P.ord.length : Int) - 1 := wrap_in (by omega) (by omega)
        go_wp2
        go_region_with ((go_at_call 44; refine (SW.out _).mono ?_; rintro e w5 ⟨rfl, hm5, hf5⟩))
        all_goals
          have HM5 := hd' hm5
          have L5 : Hid ((swapF (verIter (verHead P x) x h j) (q : Int) ((P.ord.length : Int) - 1)).ord.length = P.ord.length) := by show _ = _; rw [show (swapF (verIter (verHead P x) x h j) (q : Int) ((P.ord.length : Int) - 1)).ord.length = (verIter (verHead P x) x h j).ord.length from by simp [swapF]]; exact LO.out
          obtain ⟨_, _, _, _, _, _, b6, _, _⟩ := HM5.out.box.cells
          have fr6 := HM5.out.box.free 6
          rw [L5.out, EOO.out] at b6
          have PC := hd' HM5.out.cut
          rw [L5.out, EOO.out] at PC
          have F5 := hd' (HFj.out.trans (hf5.mono fun k _ hk => hk.elim (fun e => .inr (.inr (.inr (.inl e)))) fun e => .inr (.inr (.inr (.inr (.inl e))))))
          clear hm5 hf5 d6 d7 d8 cA fA
          have t1 : ((P.ord.length : Int) - 1).toNat = P.ord.length - 1 := by omega
          have t2 : (0 : Int) ≤ (P.ord.length : Int) - 1 := by omega
          have t3 : (P.ord.length : Int) - 1 ≤ (D.co : Int) := by omega
          go_wp2
          go_region
          all_goals go_wp2
          all_goals go_end0
          all_goals exact ⟨rfl, by rw [EF.out]; exact PC.out.drewN 1, (F5.out.trans (Fr.drewN _ _ 1)).trans ((fr_setCell _ pb 6 _).mono fun k _ hk => .inl hk)⟩
end Go.Proofs.Qxb6602173a
