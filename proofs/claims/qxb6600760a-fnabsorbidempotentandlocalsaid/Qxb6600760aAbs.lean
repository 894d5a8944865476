import Derived.Test.Qxb6600760aRep
namespace Go.Proofs.Qxb6600760a
open Go.RowKit
set_option linter.unusedVariables false
set_option linter.unusedSimpArgs false

/-- A range that begins inside or next to the run. -/
def cond (run : Int) (p : Int × Int) : Bool := decide (IntKind.u64.wrap (p.1 - 1) ≤ run)
/-- The run behind the first k ranges. -/
def rn (run : Int) (ss : List (Int × Int)) (k : Nat) : Int := (ss.take k).foldl (fun r p => max r p.2) run
theorem rn_zero (run : Int) (ss : List (Int × Int)) : rn run ss 0 = run := by simp [rn]
theorem rn_succ {run : Int} {ss : List (Int × Int)} {k : Nat} {p : Int × Int} (h : ss[k]? = some p) : rn run ss (k + 1) = max (rn run ss k) p.2 := by
  unfold rn
  rw [take_succ_of h, List.foldl_append]
  rfl
/-- The loop stops behind k ranges. -/
structure Stops (run : Int) (ss : List (Int × Int)) (k : Nat) : Prop where
  le : k ≤ ss.length
  yes : ∀ i p, i < k → ss[i]? = some p → cond (rn run ss i) p = true
  no : ∀ p, ss[k]? = some p → cond (rn run ss k) p = false
def after (e : Ent) (k : Nat) : Ent := if k = 0 then e else ⟨some (rn (e.run.getD 0) (e.det.getD []) k), if k = (e.det.getD []).length then none else some ((e.det.getD []).drop k)⟩
/-- absorb turns e to e'. -/
def Absorbs (e e' : Ent) : Prop := ∃ k, Stops (e.run.getD 0) (e.det.getD []) k ∧ e' = after e k
theorem Stops.zero {run : Int} {ss : List (Int × Int)} {k : Nat} (h : Stops run ss k) (hno : ∀ p, ss[0]? = some p → cond run p = false) : k = 0 := by
  rcases Nat.eq_zero_or_pos k with h0 | h0
  · exact h0
  · have hl := h.le
    have hp : ss[0]? = some ss[0] := List.getElem?_eq_getElem (by omega)
    have h1 := h.yes 0 _ h0 hp
    rw [rn_zero, hno _ hp] at h1
    cases h1
theorem Absorbs.again {e e' e'' : Ent} (h : Absorbs e e') (h' : Absorbs e' e'') : e'' = e' := by
  obtain ⟨k, hs, rfl⟩ := h
  obtain ⟨k', hs', rfl⟩ := h'
  suffices hk : k' = 0 by rw [hk]; rfl
  refine hs'.zero fun p hp => ?_
  by_cases hk : k = 0
  · subst hk
    have e1 : after e 0 = e := rfl
    rw [e1] at hp ⊢
    have := hs.no p hp
    rw [rn_zero] at this
    exact this
  · unfold after at hp ⊢
    rw [if_neg hk] at hp ⊢
    by_cases hl : k = (e.det.getD []).length
    · rw [if_pos hl] at hp
      simp at hp
    · rw [if_neg hl] at hp
      simp only [Option.getD_some, List.getElem?_drop, Nat.add_zero] at hp ⊢
      exact hs.no p hp

theorem absorb_dst {e : Ent} {k : Nat} {d : Option (List (Int × Int))} (hk : ¬ k = 0) (hd : (if k = (e.det.getD []).length then none else some ((e.det.getD []).drop k)) = d) : after e k = ⟨some (rn (e.run.getD 0) (e.det.getD []) k), d⟩ := by
  unfold after
  rw [if_neg hk, hd]
/-- A row of spans is turned in place, then stored anew. -/
theorem ClockAt.swapDet {w w1 : World} {B T cb m1 m2 N : Nat} {F : Int → Option SL} {st : Int → Ent} (h : ClockAt w B T cb m1 m2 N F st) (hN : N ≤ 1000) {r : Int} (hr : Wf r) {g n cap n' : Nat} {ss' : List (Int × Int)} (hF : F r = some ⟨g, n, cap⟩) (hf : Fr (fun k => k = g) w w1) (ho : OwnS w1 B T g n' cap ss') :
    w1.cell? ⟨cb, 1, none⟩ = some (.map (some m2)) ∧ ∃ w', (Instr.mapUpdate 59 (.map (some m2)) (.int .u64 r) (.slice (some ⟨g, 0, none⟩) n' cap)).run Try.prog w1 = .ok () w' ∧ ClockAt w' B T cb m1 m2 (N + 1) (upd F r (some ⟨g, n', cap⟩)) (upd st r ⟨(st r).run, some ss'⟩) ∧ Fr (fun k => k = m2) w1 w' := by
  obtain ⟨ss0, e0, o0⟩ := h.rowS r _ hF
  have n1 : ¬ m1 = g := fun e => o0.ne_map h.M1 e.symm
  have n2 : ¬ m2 = g := fun e => o0.ne_map h.M2 e.symm
  have n0 : ¬ cb = g := fun e => o0.ne_box h.box e.symm
  have M2 := h.M2.fr hf n2
  have M1 := h.M1.fr hf n1
  have bx : w1.heap[cb]? = some (.cells #[.map (some m1), .map (some m2)] 61 (0, 0)) := by rw [hf.block cb (heap_lt h.box) n0]; exact h.box
  obtain ⟨w', hrun, hM, hf2⟩ := M2.put Try.underlying59 hN hr (SL.val ⟨g, n', cap⟩)
  refine ⟨by simp [World.cell?, bx], w', hrun, ?_, hf2⟩
  exact {
    box := by rw [hf2.block cb (heap_lt bx) (box_ne_map bx M2)]; exact bx
    b0 := h.b0
    b1 := h.b1
    b2 := h.b2
    ne := h.ne
    hT := Nat.le_trans h.hT (Nat.le_trans hf.size hf2.size)
    M1 := ((M1.fr hf2 h.ne).mono (Nat.le_succ _)).congr fun x => by
      by_cases e : x = r
      · subst e; rw [upd_same]
      · rw [upd_other _ _ e]
    M2 := hM.congr fun x => by
      by_cases e : x = r
      · subst e; rw [upd_same, upd_same]; rfl
      · rw [upd_other _ _ e, upd_other _ _ e]
    rowN := fun x e => by
      by_cases e' : x = r
      · subst e'; rw [upd_same] at e; cases e
      · rw [upd_other _ _ e'] at e ⊢; exact h.rowN _ e
    rowS := fun x s e => by
      by_cases e' : x = r
      · subst e'
        rw [upd_same] at e ⊢
        cases e
        exact ⟨ss', rfl, ho.fr hf2 (ho.ne_map M2)⟩
      · rw [upd_other _ _ e'] at e ⊢
        obtain ⟨ss, e1, e2⟩ := h.rowS x s e
        have e3 := e2.fr hf (h.apart x r s _ e' e hF)
        exact ⟨ss, e1, e3.fr hf2 (e3.ne_map M2)⟩
    apart := fun x y s s' hxy e1 e2 => by
      by_cases ex : x = r
      · subst ex
        rw [upd_same] at e1
        cases e1
        rw [upd_other _ _ (fun e => hxy e.symm)] at e2
        exact h.apart x y ⟨g, n, cap⟩ s' hxy hF e2
      · rw [upd_other _ _ ex] at e1
        by_cases ey : y = r
        · subst ey
          rw [upd_same] at e2
          cases e2
          exact h.apart x y s ⟨g, n, cap⟩ hxy e1 hF
        · rw [upd_other _ _ ey] at e2
          exact h.apart x y s s' hxy e1 e2 }

theorem max_if (x y : Int) : (if x < y then y else x) = max x y := by
  rw [Int.max_def]
  split <;> split <;> omega
theorem step_rn {run : Int} {ss : List (Int × Int)} {k : Nat} {x x1 x2 : Int} (h : ss[k]? = some (x1, x2)) (hx : x = rn run ss k) : (if x < x2 then x2 else x) = rn run ss (k + 1) := by
  rw [max_if, rn_succ h, hx]
theorem step_yes {run : Int} {ss : List (Int × Int)} {k : Nat} {x x1 x2 : Int} (h : ss[k]? = some (x1, x2)) (hx : x = rn run ss k) (hc : IntKind.u64.wrap (x1 - 1) ≤ x) (hy : ∀ i p, i < k → ss[i]? = some p → cond (rn run ss i) p = true) : ∀ i p, i < k + 1 → ss[i]? = some p → cond (rn run ss i) p = true := by
  intro i p hi hp
  rcases Nat.lt_or_ge i k with hl | hl
  · exact hy i p hl hp
  · obtain rfl : i = k := by omega
    rw [h] at hp
    cases hp
    unfold cond
    rw [← hx]
    exact decide_eq_true hc
theorem stop_no {run : Int} {ss : List (Int × Int)} {k : Nat} {x x1 x2 : Int} (h : ss[k]? = some (x1, x2)) (hx : x = rn run ss k) (hc : ¬ IntKind.u64.wrap (x1 - 1) ≤ x) (hy : ∀ i p, i < k → ss[i]? = some p → cond (rn run ss i) p = true) (hl : k ≤ ss.length) : Stops run ss k :=
  ⟨hl, hy, fun p hp => by
    rw [h] at hp
    cases hp
    unfold cond
    rw [← hx]
    exact decide_eq_false hc⟩
theorem stop_end {run : Int} {ss : List (Int × Int)} {k : Nat} (hy : ∀ i p, i < k → ss[i]? = some p → cond (rn run ss i) p = true) (hl : k = ss.length) : Stops run ss k :=
  ⟨by omega, hy, fun p hp => by rw [List.getElem?_eq_none (by omega)] at hp; cases hp⟩
theorem upd_self {α : Type} (f : Int → α) (x : Int) : upd f x (f x) = f := by
  funext y
  unfold upd
  split
  · next h => rw [h]
  · rfl

theorem ClockAt.done0 {w : World} {B T cb m1 m2 N : Nat} {F : Int → Option SL} {st : Int → Ent} (h : ClockAt w B T cb m1 m2 N F st) (u : Nat) {r : Int} (hs : Stops ((st r).run.getD 0) ((st r).det.getD []) 0) :
    (∃ F' e', Absorbs (st r) e' ∧ ClockAt (w.drewN u) B T cb m1 m2 (N + 2) F' (upd st r e')) ∧ Fr (fun k => B ≤ k ∧ k < T) w (w.drewN u) := by
  refine ⟨⟨F, st r, ⟨0, hs, rfl⟩, ?_⟩, Fr.drewN _ w u⟩
  rw [upd_self]
  have hh := h.drewN u
  exact { hh with M1 := hh.M1.mono (by omega), M2 := hh.M2.mono (by omega) }

set_option maxHeartbeats 1000000 in
theorem absorb_any (w : World) (B T cb m1 m2 N : Nat) (F : Int → Option SL) (st : Int → Ent) (r : Int) (h : ClockAt w B T cb m1 m2 N F st) (hN : N ≤ 900) (hr : Wf r) :
    Calls Try.prog 40 #[.pointer (some ⟨cb, 0, none⟩), .int .u64 r] w fun e w' => e = .returned (.tuple #[]) ∧ (∃ F' e', Absorbs (st r) e' ∧ ClockAt w' B T cb m1 m2 (N + 2) F' (upd st r e')) ∧ Fr (fun k => B ≤ k ∧ k < T) w w' := by
  obtain ⟨g0, g1⟩ := h.cells
  obtain ⟨a, n, cap, _, _, rd, hF⟩ := h.look2 hr
  have L1 : ∀ q, (Instr.lookup 58 (.map (some m1)) (.int .u64 r) false).run Try.prog (w.drewN q) = .ok (.int .u64 ((st r).run.getD 0)) (w.drewN q) := fun q => ((h.drewN q).look1 hr).1
  have L2 : ∀ q, (Instr.lookup 59 (.map (some m2)) (.int .u64 r) false).run Try.prog (w.drewN q) = .ok (.slice a n cap) (w.drewN q) := fun q => by
    obtain ⟨a', n', cap', l, _, _, hF'⟩ := (h.drewN q).look2 hr
    rw [l]
    rcases hF with ⟨f1, rfl, rfl, rfl⟩ | ⟨g, rfl, f1, _⟩
    · rcases hF' with ⟨f2, rfl, rfl, rfl⟩ | ⟨g', rfl, f2, _⟩
      · rfl
      · rw [f1] at f2; cases f2
    · rcases hF' with ⟨f2, rfl, rfl, rfl⟩ | ⟨g', rfl, f2, _⟩
      · rw [f1] at f2; cases f2
      · rw [f1] at f2; cases f2; rfl
  have RD := hd rd
  have HF := hd hF
  have H := hd h
  obtain ⟨run, hrun⟩ : ∃ c, (st r).run.getD 0 = c := ⟨_, rfl⟩
  obtain ⟨ss, hss⟩ : ∃ c, (st r).det.getD [] = c := ⟨_, rfl⟩
  rw [hrun] at L1
  rw [hss] at RD
  have ERUN := hd hrun
  have ESS := hd hss
  have hsm := rd.2.1
  have HL := hd RD.out.1
  clear hrun hss rd hF h
  go_enter Try.func40, Try.ntmps40
  go_wp2_with fail
  go_quiet (fail)
  go_wp2
  go_loopw [4, 6] (fun rv jv wr => ∃ (k : Nat) (x : Int) (u : Nat), k ≤ n ∧ jv = .int .i64 k ∧ rv = .int .u64 x ∧ wr = w.drewN u ∧ Hid (x = rn run ss k) ∧ Hid (∀ i p, i < k → ss[i]? = some p → cond (rn run ss i) p = true)) (fun _ jv _ => n - (intOf jv).toNat)
  case atStart => exact ⟨0, run, _, Nat.zero_le _, rfl, rfl, rfl, (rn_zero run ss).symm, fun i p hi => absurd hi (Nat.not_lt_zero _)⟩
  case round =>
    obtain ⟨k, x, u, hk, rfl, rfl, rfl, HX, HY⟩ := hrel
    by_cases hkn : k < n
    · have hkn' : (k : Int) < (n : Int) := by omega
      obtain ⟨b, off, p, ea, ep, c1, c2⟩ := RD.out.2.2 k hkn
      have EP := hd ep
      have EA := hd ea
      clear ea ep
      obtain rfl := EA.out
      clear EA
      obtain ⟨x1, x2⟩ := p
      by_cases hc : IntKind.u64.wrap (x1 - 1) ≤ x
      · have HC := hd hc
        go_wp2
        go_roundw
        case rel => exact ⟨k + 1, (if x < x2 then x2 else x), _, by omega, by go_num, rfl, rfl, step_rn EP.out HX.out, step_yes EP.out HX.out HC.out HY.out⟩
        case measure => simp [intOf]; omega
      · have HS : Hid (Stops run ss k) := stop_no EP.out HX.out hc HY.out (by rw [HL.out]; exact hk)
        have hcb : decide (IntKind.u64.wrap (x1 - 1) ≤ x) = false := decide_eq_false hc
        clear hc HY
        by_cases hk0 : k = 0
        · have HD := hd (H.out.done0 u (r := r) (by rw [ERUN.out, ESS.out]; rw [hk0] at HS; exact HS.out))
          have hkb : ((k : Int) == 0) = true := by simp; exact hk0
          clear hk0 H
          go_wp2
          refine bodyPost_ret (results_none rfl _ _ _) rfl ?_
          exact ⟨rfl, HD.out⟩
        · have hkb : ((k : Int) == 0) = false := by simp; exact hk0
          have hkb2 : ((k : Int) == (n : Int)) = false := by simp; omega
          obtain ⟨w1, hrun1, C1, f1⟩ := (H.out.drewN u).putRun (by omega) hr x
          obtain ⟨g0', g1'⟩ := C1.cells
          obtain ⟨g, eg, hFr, ho⟩ : ∃ g, (some ⟨b, off, none⟩ : Option Addr) = some ⟨g, 0, none⟩ ∧ F r = some ⟨g, n, cap⟩ ∧ (st r).det = some ss := by
            rcases HF.out with ⟨_, e, _⟩ | ⟨g, e, e2, e3⟩
            · cases e
            · refine ⟨g, e, e2, ?_⟩
              obtain ⟨ss0, q1, _⟩ := H.out.rowS r _ e2
              have := ESS.out
              rw [q1] at this
              rw [q1]
              exact congrArg some this
          cases eg
          rw [Nat.zero_add] at c1 c2
          have K41 : Hid (∀ q, Calls Try.prog 41 #[.slice (some ⟨b, 0, none⟩) n cap, .int .i64 (0 : Int), .int .i64 (k : Int)] (w1.drewN q) fun e w' => e = .returned (.slice (some ⟨b, 0, none⟩) (n - k) cap) ∧ w'.cell? ⟨cb, 1, none⟩ = some (.map (some m2)) ∧ ∃ w3, (Instr.mapUpdate 59 (.map (some m2)) (.int .u64 r) (.slice (some ⟨b, 0, none⟩) (n - k) cap)).run Try.prog w' = .ok () w3 ∧ Hid ((∃ F' e', Absorbs (st r) e' ∧ ClockAt w3 B T cb m1 m2 (N + 2) F' (upd st r e')) ∧ Fr (fun k => B ≤ k ∧ k < T) w w3)) := fun q => by
            have C1q := C1.drewN q
            obtain ⟨ss1, q1, o1⟩ := C1q.rowS r _ hFr
            rw [upd_same] at q1
            have q2 : ss1 = ss := by rw [ho] at q1; exact (Option.some.inj q1).symm
            subst q2
            refine Calls.mono (delete_any (w1.drewN q) B T b n cap k ss1 o1 (by omega) hkn) ?_
            rintro e w2 ⟨rfl, o2, f2⟩
            obtain ⟨gc, w3, hrun3, C3, f3⟩ := C1q.swapDet (by omega) hr hFr f2 o2
            refine ⟨rfl, gc, w3, hrun3, ⟨upd F r (some ⟨b, n - k, cap⟩), _, ⟨k, by rw [ERUN.out, ESS.out]; exact HS.out, rfl⟩, ?_⟩, ?_⟩
            · have e1 : after (st r) k = ⟨some x, some (ss1.drop k)⟩ := by
                unfold after
                rw [if_neg hk0, ERUN.out, ESS.out, if_neg (by rw [HL.out]; omega), HX.out]
              rw [e1]
              rw [upd_upd, upd_same] at C3
              exact C3
            · have hb := o1
              obtain ⟨_, _, _, p4, p5, _⟩ := hb
              exact (((Fr.drewN _ w u).trans (f1.mono fun j _ e => by have e' : j = m1 := e; subst e'; exact C1.b1)).trans ((Fr.drewN _ w1 q).trans (f2.mono fun j _ e => by have e' : j = b := e; subst e'; exact ⟨p4, p5⟩))).trans (f3.mono fun j _ e => by have e' : j = m2 := e; subst e'; exact C1.b2)
          clear hk0 H C1 f1 HF HS hFr ho
          go_wp2
          go_region_with ((go_at_call 41; refine (K41.out _).mono ?_; rintro e w2 ⟨rfl, gc, w3, hrun3, HD⟩))
          all_goals
            refine bodyPost_end (results_none rfl _ _ _) rfl ?_
            exact ⟨rfl, HD.out⟩
    · have hkn' : decide ((k : Int) < (n : Int)) = false := by simp; omega
      have HS : Hid (Stops run ss k) := stop_end HY.out (by rw [HL.out]; omega)
      clear HY
      by_cases hk0 : k = 0
      · have HD := hd (H.out.done0 u (r := r) (by rw [ERUN.out, ESS.out]; rw [hk0] at HS; exact HS.out))
        have hkb : ((k : Int) == 0) = true := by simp; exact hk0
        clear hk0 H
        go_wp2
        refine bodyPost_ret (results_none rfl _ _ _) rfl ?_
        exact ⟨rfl, HD.out⟩
      · have hkb : ((k : Int) == 0) = false := by simp; exact hk0
        have hkb2 : ((k : Int) == (n : Int)) = true := by simp; omega
        obtain ⟨w1, hrun1, C1, f1⟩ := (H.out.drewN u).putRun (by omega) hr x
        obtain ⟨g0', g1'⟩ := C1.cells
        obtain ⟨w2, hrun2, C2, f2⟩ := C1.delDet hr 0
        have HD : Hid ((∃ F' e', Absorbs (st r) e' ∧ ClockAt w2 B T cb m1 m2 (N + 2) F' (upd st r e')) ∧ Fr (fun k => B ≤ k ∧ k < T) w w2) := by
          refine ⟨⟨upd F r none, _, ⟨k, by rw [ERUN.out, ESS.out]; exact HS.out, rfl⟩, ?_⟩, ?_⟩
          · have e1 : after (st r) k = ⟨some x, none⟩ := by
              unfold after
              rw [if_neg hk0, ERUN.out, ESS.out, if_pos (by rw [HL.out]; omega), HX.out]
            rw [e1]
            rw [upd_upd, upd_same] at C2
            exact { C2 with M1 := C2.M1.mono (Nat.le_succ _), M2 := C2.M2.mono (Nat.le_succ _) }
          · exact ((Fr.drewN _ w u).trans (f1.mono fun j _ e => by have e' : j = m1 := e; subst e'; exact C1.b1)).trans (f2.mono fun j _ e => by have e' : j = m2 := e; subst e'; exact C1.b2)
        clear hk0 H C1 f1 C2 f2 HF HS
        go_wp2
        refine bodyPost_end (results_none rfl _ _ _) rfl ?_
        exact ⟨rfl, HD.out⟩

theorem zzabsorb_any (w : World) (B T cb m1 m2 N : Nat) (F : Int → Option SL) (st : Int → Ent) (r : Int) (h : ClockAt w B T cb m1 m2 N F st) (hN : N ≤ 900) (hr : Wf r) :
    Calls Try.prog 27 #[.pointer (some ⟨cb, 0, none⟩), .int .u64 r] w fun e w' => e = .returned (.tuple #[]) ∧ (∃ F' e', Absorbs (st r) e' ∧ ClockAt w' B T cb m1 m2 (N + 2) F' (upd st r e')) ∧ Fr (fun k => B ≤ k ∧ k < T) w w' := by
  have K := hd (absorb_any w B T cb m1 m2 N F st r h hN hr)
  clear h
  go_enter Try.func27, Try.ntmps27
  go_wp2_with fail
  refine Calls.mono K.out ?_
  rintro e w1 ⟨rfl, h1⟩
  have H1 := hd h1
  clear h1 K
  go_wp2_with fail
  refine bodyPost_end (results_none rfl _ _ _) rfl ?_
  exact ⟨rfl, H1.out⟩
end Go.Proofs.Qxb6600760a
