import Derived.Test.Qxb6602173aVerP
import Derived.Deep.RegionWith
import Derived.Deep.RegionLaw
import Derived.Deep.AppendLies
import Derived.Deep.DrawnRows
namespace Go.Proofs.Qxb6602173a
open Go.RowKit
set_option linter.unusedVariables false
set_option linter.unusedSimpArgs false
attribute [local go_sem ↓] Go.wp_at_zero Go.wp_at_succ

theorem hdn {p : Prop} (h : p) : Hid p := h

/-- Gain, on the fields: the counts first, then the piece moves as in Verify's one step. -/
def gainHead (P : Pk) (i : Int) : Pk :=
  { P with held := P.held.set i.toNat (heldAt P.held i + 1), starts := if heldAt P.held i + 1 = P.starts.length then P.starts ++ [(P.ord.length : Int)] else P.starts }
def gainF (P : Pk) (i : Int) : Pk := if P.st.getD i.toNat 0 = 2 then P else dropStep (gainHead P i) i (heldAt P.held i).toNat

structure GainOk (P : Pk) (i : Int) : Prop where
  x0 : 0 ≤ i
  x1 : i < P.st.length
  at_ : P.at_.length = P.st.length
  held : P.held.length = P.st.length
  go : P.st[i.toNat]? ≠ some 2 → 0 ≤ heldAt P.held i ∧ heldAt P.held i < P.starts.length ∧ Mv P i (heldAt P.held i).toNat ∧ P.starts.length + 1 ≤ 16777216

theorem Mv.held {P : Pk} {x : Int} {m : Nat} (h : Mv P x m) (l : List Int) : Mv { P with held := l } x m := ⟨h.inv, h.mem, h.low⟩
theorem Mv.grow {P : Pk} {x : Int} {m : Nat} (h : Mv P x m) (l : List Int) : Mv { P with held := l, starts := P.starts ++ [(P.ord.length : Int)] } x m := by
  refine ⟨h.inv, h.mem, fun m' h1 h2 => ?_⟩
  simp at h2
  show ∃ s, (P.starts ++ [(P.ord.length : Int)])[m']? = some s ∧ _
  by_cases hm : m' < P.starts.length
  · obtain ⟨s, hs, r⟩ := h.low m' h1 hm
    exact ⟨s, by rw [List.getElem?_append_left hm]; exact hs, r⟩
  · obtain rfl : m' = P.starts.length := by omega
    obtain ⟨q, hq⟩ := h.mem
    have := lt_of hq
    exact ⟨(P.ord.length : Int), by simp, by omega, by show (P.ord.length : Int) ≤ P.ord.length; omega⟩
theorem gainHead_mv {P : Pk} {i : Int} {m : Nat} (h : Mv P i m) : Mv (gainHead P i) i m := by
  unfold gainHead
  split
  · exact h.grow _
  · exact h.held _
theorem gainHead_len {P : Pk} {i : Int} (h0 : 0 ≤ heldAt P.held i) (h1 : heldAt P.held i < P.starts.length) : (heldAt P.held i).toNat + 1 < (gainHead P i).starts.length := by
  unfold gainHead
  split
  · simp; omega
  · show _ < P.starts.length; omega

theorem PM.grow {w w1 w2 : World} {B pb : Nat} {D : Ad} {P : Pk} (hM : PM w B pb D P) (hb : Below w.heap.size w w1) {g cap gT H : Nat} {l : Int} (eT : D.t = some ⟨gT, 0, none⟩) (hg : w1.grownBy w2 (some gT))
    (ho : w2.ownsRow B 3 1 (.slice (some ⟨g, 0, none⟩) (P.starts.length + 1) cap) (P.starts.length + 1) (ints P.starts ++ [.int .i64 l])) (hat : some gT = some g ∨ g = H) (hH : w.heap.size ≤ H) (hsm : P.starts.length + 1 ≤ 16777216) :
    PM (w2.setCell ⟨pb, 8, none⟩ (.slice (some ⟨g, 0, none⟩) (P.starts.length + 1) cap)) B pb { D with t := some ⟨g, 0, none⟩, ct := cap } { P with starts := P.starts ++ [l] } := by
  have hF : Fr (fun k => k = gT) w w2 := by
    refine ⟨hg.os.trans hb.os, hg.tape.trans hb.tape, hg.output.trans hb.output, Nat.le_trans hb.size hg.size, fun k hk hne => ?_⟩
    rw [hg.block k (Nat.lt_of_lt_of_le hk hb.size) (fun e => hne (Option.some.inj e)), hb.block k hk]
  have hbx := hM.box
  unfold Bx at hbx
  have hpT : ¬ pb = gT := fun e => hM.t.boxty hbx (by decide) (e ▸ eT)
  have hbx2 : w2.heap[pb]? = _ := (hF.block pb (heap_lt hbx) hpT).trans hbx
  have hf := fr_setCell w2 pb 8 (.slice (some ⟨g, 0, none⟩) (P.starts.length + 1) cap)
  obtain ⟨a', c', ev, hOt⟩ := Own.of_row ho hsm
  cases ev
  have hgp : ¬ (some ⟨g, 0, none⟩ : Option Addr) = some ⟨pb, 0, none⟩ := hOt.boxty hbx2 (by decide)
  have keep' : ∀ {e : TypeId} {a : Option Addr} {n c : Nat} {vs : List Value}, Own w B e a n c vs → e ≠ 53 → Apt a D.t → Own (w2.setCell ⟨pb, 8, none⟩ (.slice (some ⟨g, 0, none⟩) (P.starts.length + 1) cap)) B e a n c vs := by
    intro e a n c vs h he hap
    exact (h.fr hF fun b eb k => hap b eb (k ▸ eT)).fr hf fun b eb k => (h.fr hF fun b eb k => hap b eb (k ▸ eT)).boxty hbx2 he (k ▸ eb)
  have apt : ∀ {e : TypeId} {a : Option Addr} {n c : Nat} {vs : List Value}, Own w B e a n c vs → Apt a D.t → Apt a (some ⟨g, 0, none⟩) := by
    intro e a n c vs h hap b eb eg
    simp at eg
    subst eg
    rcases hat with hat | hat
    · cases hat
      exact hap _ eb eT
    · have := (h.lt eb).2
      omega
  have lenS : (P.starts ++ [l]).length = P.starts.length + 1 := by simp
  refine ⟨?_, hM.hB, keep' hM.s (by decide) (hM.s.ty hM.t (by decide)), keep' hM.c (by decide) (hM.c.ty hM.t (by decide)), keep' hM.h (by decide) hM.ht, keep' hM.o (by decide) hM.ot, keep' hM.a (by decide) hM.at_, ?_, hM.ho, hM.ha, apt hM.h hM.ht, hM.oa, apt hM.o hM.ot, apt hM.a hM.at_⟩
  · unfold Bx
    rw [heap_setCell_at hbx2]
    show some (Obj.cells _ 53 (0, 0)) = some (Obj.cells #[_, _, _, _, _, _, _, _, .slice (some ⟨g, 0, none⟩) (P.starts ++ [l]).length cap] 53 (0, 0))
    rw [lenS]
    rfl
  · show Own _ B 3 (some ⟨g, 0, none⟩) (P.starts ++ [l]).length cap (ints (P.starts ++ [l]))
    rw [lenS, show ints (P.starts ++ [l]) = ints P.starts ++ [.int .i64 l] from by simp [ints]]
    exact hOt.fr hf fun b eb k => hgp (k ▸ eb)

theorem far_cell {w1 w3 : World} {o : Obj} {row : Option Nat} (hg : ((w1.alloc o).drew).grownBy w3 row) {pb j : Nat} (hlt : pb < w1.heap.size) (hne : some pb ≠ row) : w3.cell? ⟨pb, j, none⟩ = w1.cell? ⟨pb, j, none⟩ ∧ w3.frozen? ⟨pb, j, none⟩ = w1.frozen? ⟨pb, j, none⟩ := by
  have hb : w3.heap[pb]? = w1.heap[pb]? := (hg.block pb (by simp; omega) hne).trans (Below.heap_alloc w1 o pb hlt)
  exact ⟨World.cell?_of_block hb, World.frozen?_of_block hb⟩
theorem far_fr {w1 w3 : World} {o : Obj} {row : Option Nat} {B : Nat} (hg : ((w1.alloc o).drew).grownBy w3 row) (hr : ∀ k, row = some k → B ≤ k) (hB : B ≤ w1.heap.size) : Fr (fun k => B ≤ k) w1 w3 :=
  Fr.of_below ((((Below.refl B w1).alloc hB o).drew).grown hg (by simp; omega) hr)
theorem wrap_in' {n : Int} (h0 : -9223372036854775808 ≤ n) (h1 : n ≤ 9223372036854775807) : IntKind.i64.wrap n = n := by
  simp only [IntKind.wrap, IntKind.bits, IntKind.signed]
  simp
  omega
theorem Inv.dist' {P : Pk} (h : Inv P) {a b : Int} (ha0 : 0 ≤ a) (ha : a < P.ord.length) (hb0 : 0 ≤ b) (hb : b < P.ord.length) : a ≠ b → P.ord[a.toNat]? ≠ P.ord[b.toNat]? := by
  intro hne e
  obtain ⟨i, hi⟩ := some_of (l := P.ord) (show a.toNat < P.ord.length by omega)
  have := h.inj hi (e ▸ hi)
  omega
theorem Inv.inn' {P : Pk} (h : Inv P) : ∀ x ∈ P.ord, 0 ≤ x ∧ x < P.at_.length := by
  intro x hx
  obtain ⟨q, hq⟩ := List.getElem?_of_mem hx
  exact ⟨(h q x hq).1, (h q x hq).2.1⟩

set_option maxHeartbeats 4000000 in
set_option maxRecDepth 100000 in
theorem gain_pm (w : World) (B pb : Nat) (D : Ad) (P : Pk) (i : Int) (hM : PM w B pb D P) (ok : GainOk P i) (hBw : B ≤ w.heap.size) :
    Calls Try.prog 27 #[.pointer (some ⟨pb, 0, none⟩), .int .i64 i] w fun e w' => e = .returned (.tuple #[]) ∧ ∃ D', PM w' B pb D' (gainF P i) ∧ Fr (fun k => B ≤ k) w w' := by
  obtain ⟨c0, c1, c2, c3, c4, c5, c6, c7, c8⟩ := hM.box.cells
  have hn := hM.s.small
  have hk := hM.t.small
  have x0 := ok.x0
  have x1 := ok.x1
  obtain ⟨gS, y, eS, _, n1, hy, cy, fy, _⟩ := hM.setSt (i := i.toNat) (by omega)
  rw [eS] at c0
  have OK := hdn ok
  have HM := hdn hM
  have EY := hdn hy
  clear hy eS fy
  by_cases hy2 : y = 2
  · subst hy2
    have EF : Hid (gainF P i = P) := by show _ = _; unfold gainF; rw [if_pos (getD_of EY.out)]
    clear hM ok
    go_enter Try.func27, Try.ntmps27
    go_wp2
    try simp only [Exit.inBlock, Exit.then]
    refine bodyPost_ret (results_none rfl _ _ _) rfl ?_
    exact ⟨rfl, D, by rw [EF.out]; exact HM.out, Fr.refl _ _⟩
  obtain ⟨h0, h1, hmv, hk1⟩ := ok.go (fun e => hy2 (by rw [EY.out] at e; exact Option.some.inj e))
  have hyb : (y == 2) = false := beq_eq_false_iff_ne.2 hy2
  have NY := hdn hy2
  clear hy2
  obtain ⟨gH, hv, eH, hBH, n3, hhv, ch, fh, sH⟩ := hM.setHeld (i := i.toNat) (by rw [ok.held]; omega)
  have ehv : heldAt P.held i = hv := getD_of hhv
  have hih : i < (P.held.length : Int) := by rw [ok.held]; exact x1
  rw [ehv] at h0 h1
  obtain ⟨h, rfl⟩ := Int.eq_ofNat_of_zero_le h0
  have hh : (heldAt P.held i).toNat = h := by rw [ehv]; rfl
  have HH := hdn hh
  have HMV2 := hdn (gainHead_mv (hh ▸ hmv))
  rw [eH] at c5
  have m2 : ¬ gH = pb := n3
  have SH := hdn (sH ((h : Int) + 1))
  have FH : Hid (Fr (fun k => B ≤ k) w (w.setCell ⟨gH, i.toNat, none⟩ (.int .i64 ((h : Int) + 1)))) := (fr_setCell w gH _ _).mono fun k _ hk => hk ▸ hBH
  have EHV := hdn ehv
  have hkl : 0 < P.starts.length := by omega
  obtain ⟨gT, _, eT, hBT, nT, _, _, _, _⟩ := hM.setStarts (i := 0) hkl
  rw [eT] at c8
  have ET := hdn eT
  have nHT : ¬ gH = gT := fun e => hM.ht gH eH (e ▸ eT)
  clear hM ok hhv ehv hh hmv eH eT sH h0 c1 c2 c3 c4 c7
  by_cases hap : h + 1 = P.starts.length
  · -- bucket h + 1 is opened
    have hapb : ((h : Int) + 1 == (P.starts.length : Int)) = true := beq_iff_eq.2 (by omega)
    have EG : Hid (gainHead P i = { P with held := P.held.set i.toNat ((h : Int) + 1), starts := P.starts ++ [(P.ord.length : Int)] }) := by
      show _ = _
      unfold gainHead
      rw [EHV.out, if_pos (by omega)]
    have EKL : Hid ((gainHead P i).starts.length = P.starts.length + 1) := by show _ = _; rw [EG.out]; simp
    have hhk : h < P.starts.length := by omega
    have HAP := hdn hap
    clear hap
    obtain ⟨i0, hi, hz0, hz1, hz2⟩ := info_parts Try.info3
    have OW := hdn (SH.out.t.row)
    rw [ET.out] at OW
    have hsz := SH.out.lt
    go_enter Try.func27, Try.ntmps27
    go_wp2
    generalize w.setCell ⟨gH, i.toNat, none⟩ (.int .i64 ((h : Int) + 1)) = w1 at SH FH OW hsz ⊢
    clear c0 c5 c6 c8 cy ch fh
    obtain ⟨_, _, _, _, _, _, c6, _, c8⟩ := SH.out.box.cells
    have f8 := SH.out.box.free 8
    have C8 := hdn c8
    rw [ET.out] at c8
    have hsz1 : w.heap.size ≤ w1.heap.size := FH.out.size
    go_region_law ((refine step_append_lies _ (by rfl) _ _ _ (by rfl) B 3 i0 (.int .i64 0) 1 8 Try.underlying24 hi hz0 hz1 hz2 rfl (by omega) (.slice (some ⟨gT, 0, none⟩) P.starts.length D.ct) P.starts.length (ints P.starts) (by rfl) ((OW.out.alloc _).drew) ⟨w1.heap.size, 0, none⟩ 1 1 [.int .i64 (P.ord.length : Int)] (by rfl) (by rfl) (World.news_of_block (cs := #[.int .i64 (P.ord.length : Int)]) (t := 3) (fr := (0, 0)) (heap_alloc_new w1 _)) (by simp [Value.oneCell']) (by omega) (by unfold maxLen; omega) (by omega) (by simp; omega) (w1.heap.size + 1) (by simp) ?_; intro g cap w3 hown1 hgrow hat hlt; have b8 : w3.cell? ⟨pb, 8, none⟩ = some (.slice (some ⟨gT, 0, none⟩) P.starts.length D.ct) := (far_cell hgrow hsz (fun e => nT (Option.some.inj e).symm)).1.trans c8; have fb8 : w3.frozen? ⟨pb, 8, none⟩ = false := (far_cell hgrow hsz (fun e => nT (Option.some.inj e).symm)).2.trans f8))
    all_goals
      have HM2 := hdn (SH.out.grow (w1 := (w1.alloc (.cells #[.int .i64 (P.ord.length : Int)] 3)).drew) (((Below.refl _ w1).alloc (Nat.le_refl _) _).drew) ET.out hgrow hown1 hat (by omega) hk1)
      have FR := hdn ((FH.out.trans (far_fr hgrow (fun k hk => by cases hk; exact hBT) (by omega))).trans ((fr_setCell w3 pb 8 (.slice (some ⟨g, 0, none⟩) (P.starts.length + 1) cap)).mono fun k _ hk => hk ▸ SH.out.hB))
      rw [← EG.out] at HM2
      clear hgrow hown1 hat hlt b8 fb8 c6 c8 f8 C8
      generalize w3.setCell ⟨pb, 8, none⟩ (.slice (some ⟨g, 0, none⟩) (P.starts.length + 1) cap) = w2 at HM2 FR ⊢
      generalize ({ D with t := some ⟨g, 0, none⟩, ct := cap } : Ad) = D2 at HM2
      go_wp2

      -- the piece moves
      obtain ⟨e0, e1, e2, e3, e4, e5, e6, e7, e8⟩ := HM2.out.box.cells
      have LT : Hid ((gainHead P i).starts.length = (P.starts.length + 1)) := EKL
      obtain ⟨q, hq, ea, eat, hql⟩ := HMV2.out.place
      obtain ⟨sv, hsv, s1, s2⟩ := HMV2.out.low (h + 1) (by omega) (by rw [LT.out]; omega)
      obtain ⟨gA, q', eA, _, nA, hq', cA, fA, _⟩ := HM2.out.setAt (i := i.toNat) (by show _ < P.at_.length; rw [OK.out.at_]; omega)
      rw [eat] at hq'
      cases hq'
      have d7 : w2.cell? ⟨pb, 7, none⟩ = some (.slice (some ⟨gA, 0, none⟩) P.at_.length D2.ca) := by rw [eA] at e7; exact e7
      have hia : i < (P.at_.length : Int) := by rw [OK.out.at_]; exact x1
      have EN : Hid (endF (gainHead P i).starts P.ord.length (h : Int) = sv) := by
        show _ = _
        unfold endF
        rw [if_pos (by rw [LT.out]; omega), show ((h : Int) + 1).toNat = h + 1 from by omega, getD_of hsv]
      have hos : (P.ord.length : Int) ≤ 16777216 := by have := HM2.out.o.small; have e : (gainHead P i).ord.length = P.ord.length := rfl; omega
      have s2' : sv ≤ (P.ord.length : Int) := s2
      have hql' : q < P.ord.length := hql
      have K45 : Hid (∀ u, Calls Try.prog 45 #[.pointer (some ⟨pb, 0, none⟩), .int .i64 (h : Int)] (w2.drewN u) fun e w' => e = .returned (.int .i64 sv) ∧ w' = w2.drewN u) := by
        intro u
        have := end_any pb (h : Int) D2.o D2.t P.ord.length D2.co (gainHead P i).starts.length D2.ct (gainHead P i).starts (w2.drewN u) (by omega) (by omega) e6 e8 HM2.out.t.rd
        rw [EN.out] at this
        exact this
      have SW : Hid (∀ u, Calls Try.prog 44 #[.pointer (some ⟨pb, 0, none⟩), .int .i64 (q : Int), .int .i64 (sv - 1)] (w2.drewN u) fun e w' => e = .returned (.tuple #[]) ∧ PM w' B pb D2 (swapF (gainHead P i) (q : Int) (sv - 1)) ∧ Fr (swapFr D2) w2 w') := fun u =>
        (swap_pm (w2.drewN u) B pb D2 _ (q : Int) (sv - 1) (HM2.out.drewN u) (by omega) (by omega) (by omega) (by omega) HMV2.out.inv.inn' (HMV2.out.inv.dist' (by omega) (by omega) (by omega) (by omega))).mono fun e w' ⟨he, hm, hf⟩ => ⟨he, hm, (Fr.drewN _ w2 u).trans hf⟩
      have ED : Hid (gainF P i = { swapF (gainHead P i) (q : Int) (sv - 1) with starts := (gainHead P i).starts.set (h + 1) (sv - 1) }) := by
        show _ = _
        unfold gainF
        rw [if_neg (by rw [getD_of EY.out]; exact NY.out), HH.out]
        unfold dropStep
        rw [ea, show startAt (gainHead P i) (h + 1) = sv from getD_of hsv]
      have HSV := hdn hsv
      clear e0 e1 e2 e3 e4 e5 e6 e7 e8 hq ea eat hql hsv s2 eA fA
      have hw2 : IntKind.i64.wrap (sv - 1) = sv - 1 := wrap_in' (by omega) (by omega)
      have hq0 : (0 : Int) ≤ (q : Int) := by omega
      go_region_with (first | (go_at_call 45; refine (K45.out _).mono ?_; rintro e w5 ⟨rfl, rfl⟩) | (go_at_call 44; refine (SW.out _).mono ?_; rintro e w5 ⟨rfl, hm5, hf5⟩))
      all_goals
        have HM5 := hdn hm5
        have L5 : Hid ((swapF (gainHead P i) (q : Int) (sv - 1)).starts.length = (P.starts.length + 1)) := LT
        obtain ⟨_, _, _, _, _, _, _, _, b8⟩ := HM5.out.box.cells
        rw [L5.out] at b8
        obtain ⟨gT', s', eT', hBT, nT', hs', cT', fT', sT'⟩ := HM5.out.setStarts (i := h + 1) (by rw [L5.out]; omega)
        obtain rfl : s' = sv := by have := hs'.symm.trans HSV.out; exact Option.some.inj this
        rw [eT'] at b8
        have SX := hdn (sT' (s' - 1))
        have F5 := hdn (hf5.mono (G := fun k => B ≤ k) fun k hk0 hk => hk.elim (fun e => (HM2.out.o.lt e).1) fun e => (HM2.out.a.lt e).1)
        have F6 := hdn ((FR.out.trans F5.out).trans ((fr_setCell w5 gT' (h + 1) (.int .i64 (s' - 1))).mono fun k _ hk => hk ▸ hBT))
        clear hm5 hf5 hs' sT' d7 cA
        have hmk : (h : Int) + 1 < ((P.starts.length + 1) : Int) := by omega
        go_wp2
        go_end0
        exact ⟨rfl, D2, by rw [ED.out]; exact SX.out, F6.out⟩
  · -- bucket h + 1 is there
    have hapb : ((h : Int) + 1 == (P.starts.length : Int)) = false := beq_eq_false_iff_ne.2 (by omega)
    have EG : Hid (gainHead P i = { P with held := P.held.set i.toNat ((h : Int) + 1) }) := by
      show _ = _
      unfold gainHead
      rw [EHV.out, if_neg (by omega)]
    have EKL : Hid ((gainHead P i).starts.length = P.starts.length) := by show _ = _; rw [EG.out]
    have hhk : h + 1 < P.starts.length := by omega
    clear hap
    go_enter Try.func27, Try.ntmps27
    go_wp2
    have HM2 := hdn SH.out
    rw [← EG.out] at HM2
    have FR := hdn FH.out
    clear c0 c5 c6 c8 cy ch fh SH FH
    generalize w.setCell ⟨gH, i.toNat, none⟩ (.int .i64 ((h : Int) + 1)) = w2 at HM2 FR ⊢
    obtain ⟨D2, hD2⟩ : ∃ D2, D2 = D := ⟨_, rfl⟩
    rw [← hD2] at HM2
    clear hD2

    -- the piece moves
    obtain ⟨e0, e1, e2, e3, e4, e5, e6, e7, e8⟩ := HM2.out.box.cells
    have LT : Hid ((gainHead P i).starts.length = P.starts.length) := EKL
    obtain ⟨q, hq, ea, eat, hql⟩ := HMV2.out.place
    obtain ⟨sv, hsv, s1, s2⟩ := HMV2.out.low (h + 1) (by omega) (by rw [LT.out]; omega)
    obtain ⟨gA, q', eA, _, nA, hq', cA, fA, _⟩ := HM2.out.setAt (i := i.toNat) (by show _ < P.at_.length; rw [OK.out.at_]; omega)
    rw [eat] at hq'
    cases hq'
    have d7 : w2.cell? ⟨pb, 7, none⟩ = some (.slice (some ⟨gA, 0, none⟩) P.at_.length D2.ca) := by rw [eA] at e7; exact e7
    have hia : i < (P.at_.length : Int) := by rw [OK.out.at_]; exact x1
    have EN : Hid (endF (gainHead P i).starts P.ord.length (h : Int) = sv) := by
      show _ = _
      unfold endF
      rw [if_pos (by rw [LT.out]; omega), show ((h : Int) + 1).toNat = h + 1 from by omega, getD_of hsv]
    have hos : (P.ord.length : Int) ≤ 16777216 := by have := HM2.out.o.small; have e : (gainHead P i).ord.length = P.ord.length := rfl; omega
    have s2' : sv ≤ (P.ord.length : Int) := s2
    have hql' : q < P.ord.length := hql
    have K45 : Hid (∀ u, Calls Try.prog 45 #[.pointer (some ⟨pb, 0, none⟩), .int .i64 (h : Int)] (w2.drewN u) fun e w' => e = .returned (.int .i64 sv) ∧ w' = w2.drewN u) := by
      intro u
      have := end_any pb (h : Int) D2.o D2.t P.ord.length D2.co (gainHead P i).starts.length D2.ct (gainHead P i).starts (w2.drewN u) (by omega) (by omega) e6 e8 HM2.out.t.rd
      rw [EN.out] at this
      exact this
    have SW : Hid (∀ u, Calls Try.prog 44 #[.pointer (some ⟨pb, 0, none⟩), .int .i64 (q : Int), .int .i64 (sv - 1)] (w2.drewN u) fun e w' => e = .returned (.tuple #[]) ∧ PM w' B pb D2 (swapF (gainHead P i) (q : Int) (sv - 1)) ∧ Fr (swapFr D2) w2 w') := fun u =>
      (swap_pm (w2.drewN u) B pb D2 _ (q : Int) (sv - 1) (HM2.out.drewN u) (by omega) (by omega) (by omega) (by omega) HMV2.out.inv.inn' (HMV2.out.inv.dist' (by omega) (by omega) (by omega) (by omega))).mono fun e w' ⟨he, hm, hf⟩ => ⟨he, hm, (Fr.drewN _ w2 u).trans hf⟩
    have ED : Hid (gainF P i = { swapF (gainHead P i) (q : Int) (sv - 1) with starts := (gainHead P i).starts.set (h + 1) (sv - 1) }) := by
      show _ = _
      unfold gainF
      rw [if_neg (by rw [getD_of EY.out]; exact NY.out), HH.out]
      unfold dropStep
      rw [ea, show startAt (gainHead P i) (h + 1) = sv from getD_of hsv]
    have HSV := hdn hsv
    clear e0 e1 e2 e3 e4 e5 e6 e7 e8 hq ea eat hql hsv s2 eA fA
    have hw2 : IntKind.i64.wrap (sv - 1) = sv - 1 := wrap_in' (by omega) (by omega)
    have hq0 : (0 : Int) ≤ (q : Int) := by omega
    go_region_with (first | (go_at_call 45; refine (K45.out _).mono ?_; rintro e w5 ⟨rfl, rfl⟩) | (go_at_call 44; refine (SW.out _).mono ?_; rintro e w5 ⟨rfl, hm5, hf5⟩))
    all_goals
      have HM5 := hdn hm5
      have L5 : Hid ((swapF (gainHead P i) (q : Int) (sv - 1)).starts.length = P.starts.length) := LT
      obtain ⟨_, _, _, _, _, _, _, _, b8⟩ := HM5.out.box.cells
      rw [L5.out] at b8
      obtain ⟨gT', s', eT', hBT, nT', hs', cT', fT', sT'⟩ := HM5.out.setStarts (i := h + 1) (by rw [L5.out]; omega)
      obtain rfl : s' = sv := by have := hs'.symm.trans HSV.out; exact Option.some.inj this
      rw [eT'] at b8
      have SX := hdn (sT' (s' - 1))
      have F5 := hdn (hf5.mono (G := fun k => B ≤ k) fun k hk0 hk => hk.elim (fun e => (HM2.out.o.lt e).1) fun e => (HM2.out.a.lt e).1)
      have F6 := hdn ((FR.out.trans F5.out).trans ((fr_setCell w5 gT' (h + 1) (.int .i64 (s' - 1))).mono fun k _ hk => hk ▸ hBT))
      clear hm5 hf5 hs' sT' d7 cA
      have hmk : (h : Int) + 1 < (P.starts.length : Int) := by omega
      go_wp2
      go_end0
      exact ⟨rfl, D2, by rw [ED.out]; exact SX.out, F6.out⟩
end Go.Proofs.Qxb6602173a
