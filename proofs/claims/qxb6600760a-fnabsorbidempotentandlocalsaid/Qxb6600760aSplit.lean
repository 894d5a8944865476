import Derived.Test.Qxb6600760aBase
namespace Go.Proofs.Qxb6600760a
open Go.RowKit
set_option linter.unusedVariables false
set_option linter.unusedSimpArgs false

theorem made_block {w : World} {B g : Nat} {e : TypeId} {z : Value} {n : Nat} (hz : z.cells = #[z]) (h : w.ownsRow B e 1 (.slice (some ⟨g, 0, none⟩) n n) n (madeCells z.cells (n * 1)).toList) :
    w.heap[g]? = some (.cells (List.replicate n z).toArray e (0, 0)) := by
  obtain ⟨hl, h⟩ := h
  rcases h with ⟨h, _⟩ | ⟨g', cap, cur, hv, _, hg, _, _, hs, ht⟩
  · cases h
  · simp at hv
    obtain ⟨rfl, rfl⟩ := hv
    rw [hz] at ht
    simp only [Nat.mul_one] at ht hs
    rw [toList_madeCells_one, List.take_of_length_le (by simp [hs])] at ht
    rw [hg]
    simp [← ht]
theorem Own.fresh {w : World} {B g : Nat} {e : TypeId} {n : Nat} {vs : List Value} (hg : w.heap[g]? = some (.cells vs.toArray e (0, 0))) (hB : B ≤ g) (hn : vs.length = n) (hs : n ≤ 16777216) : Own w B e (some ⟨g, 0, none⟩) n n vs :=
  ⟨hn, Nat.le_refl _, by unfold maxLen; omega, hs, .inr ⟨g, [], rfl, hB, by simpa using hg, by simpa using hn⟩⟩
theorem below_grown {w w1 : World} (h : w.grownBy w1 none) : Below w.heap.size w w1 := (Below.refl _ w).grown h (Nat.le_refl _) (fun k hk => by cases hk)
theorem fr_setCell (w : World) (g i : Nat) (u : Value) : Fr (fun k => k = g) w (w.setCell ⟨g, i, none⟩ u) :=
  ⟨rfl, rfl, rfl, by simp [World.setCell], fun k _ hk => Below.heap_setCell w _ u k hk⟩

/-- The first k are laid, the others still 0. -/
def fill (l : List Int) (n k : Nat) : List Int := l.take k ++ List.replicate (n - k) 0
theorem fill_zero (l : List Int) (n : Nat) : u64s (fill l n 0) = List.replicate n (.int .u64 0) := by simp [fill, u64s]
theorem fill_set {l : List Int} {n k : Nat} {x : Int} (hx : l[k]? = some x) (hk : k < n) : (fill l n k).set k x = fill l n (k + 1) := by
  unfold fill
  have hl : k < l.length := (List.getElem?_eq_some_iff.1 hx).1
  rw [List.set_append_right _ _ (by simp; omega), take_succ_of hx, show n - k = (n - (k + 1)) + 1 by omega, List.replicate_succ]
  simp [Nat.min_eq_left (Nat.le_of_lt hl)]
theorem fill_all {l : List Int} {n : Nat} (h : l.length = n) : fill l n n = l := by
  unfold fill
  rw [List.take_of_length_le (by omega)]
  simp
theorem map_get {α β : Type} {f : α → β} {l : List α} {i : Nat} {p : α} (h : l[i]? = some p) : (l.map f)[i]? = some (f p) := by rw [List.getElem?_map, h]; rfl

set_option maxHeartbeats 1000000 in
theorem split_any (a : Option Addr) (n c : Nat) (ss : List (Int × Int)) (w : World) (h : RdS w a n ss) :
    Calls Try.prog 12 #[.slice a n c] w fun e w' => ∃ a1 a2, e = .returned (.tuple #[.slice a1 n n, .slice a2 n n]) ∧ Own w' w.heap.size 31 a1 n n (u64s (ss.map (·.1))) ∧ Own w' w.heap.size 31 a2 n n (u64s (ss.map (·.2))) ∧ Below w.heap.size w w' := by
  have hsm := h.2.1
  have HL := hd h.1
  have H := hd h
  clear h
  obtain ⟨i0, hi, hz0, hz1, hz2⟩ := info_parts Try.info31
  go_enter Try.func12, Try.ntmps12
  go_wp2_with (first | (at_make; refine wpList_make_full _ rfl _ _ 24 rfl w.heap.size 31 i0 (.int .u64 0) 1 Try.underlying24 hi hz0 hz1 .i64 .i64 n n n rfl rfl rfl rfl (by rw [hz2]; omega) (by unfold maxLen; omega) (Nat.le_refl _) ?_; intro w1 ho hg; have hbk := hd (made_block (by rfl) ho); have hbel := hd (below_grown hg); clear ho hg) | (at_make; refine wpList_make_full _ rfl _ _ 24 rfl w1.heap.size 31 i0 (.int .u64 0) 1 Try.underlying24 hi hz0 hz1 .i64 .i64 n n n rfl rfl rfl rfl (by rw [hz2]; omega) (by unfold maxLen; omega) (Nat.le_refl _) ?_; intro w2 ho hg; have hbk2 := hd (made_block (by rfl) ho); have hbel2 := hd (below_grown hg); clear ho hg))
  clear hi hz0 hz1 hz2
  obtain ⟨G1, hG1⟩ : ∃ b, w.heap.size = b := ⟨_, rfl⟩
  obtain ⟨G2, hG2⟩ : ∃ b, w1.heap.size = b := ⟨_, rfl⟩
  have O1 : Hid (Own w2 G1 31 (some ⟨G1, 0, none⟩) n n (u64s (fill (ss.map (·.1)) n 0))) := by
    show Own _ _ _ _ _ _ _
    rw [fill_zero, ← hG1]
    exact (Own.fresh hbk.out (Nat.le_refl _) (by simp) hsm).below hbel2.out
  have hlt : Hid (G1 < G2) := by
    have := heap_lt hbk.out
    show G1 < G2
    omega
  have O2 : Hid (Own w2 G1 31 (some ⟨G2, 0, none⟩) n n (u64s (fill (ss.map (·.2)) n 0))) := by
    show Own _ _ _ _ _ _ _
    rw [fill_zero]
    refine Own.fresh ?_ (Nat.le_of_lt hlt.out) (by simp) hsm
    rw [← hG2]
    exact hbk2.out
  have V2 := hd (bl hbel.out hbel2.out)
  clear hbk hbk2 hbel hbel2
  rw [hG1] at V2 ⊢
  rw [hG2]
  have EG := hd hG1
  clear hG1 hG2
  go_loopw [6] (fun iv wr => ∃ k : Nat, k ≤ n ∧ iv = .int .i64 k ∧ Hid (Own wr G1 31 (some ⟨G1, 0, none⟩) n n (u64s (fill (ss.map (·.1)) n k))) ∧ Hid (Own wr G1 31 (some ⟨G2, 0, none⟩) n n (u64s (fill (ss.map (·.2)) n k))) ∧ Hid (Below G1 w wr)) (fun iv _ => n - (intOf iv).toNat)
  case atStart => exact ⟨0, Nat.zero_le _, rfl, O1, O2, V2⟩
  case round =>
    clear O1 O2 V2
    obtain ⟨k, hk, rfl, O1, O2, V⟩ := hrel
    by_cases hkn : k < n
    · have hkn' : (k : Int) < (n : Int) := by omega
      have VB : Hid (Below w.heap.size w wr) := by show Below _ _ _; rw [EG.out]; exact V.out
      obtain ⟨b, off, p, ea, ep, g1, g2⟩ := (H.out.below VB.out).2.2 k hkn
      have EP := hd ep
      have EA := hd ea
      clear ea ep
      obtain rfl := EA.out
      clear EA
      obtain ⟨x1, x2⟩ := p
      obtain ⟨g, eg, hg, _, f1, ⟨v1, hv1, c1⟩, s1⟩ := O1.out.at hkn
      cases eg
      have S1 := hd (s1 (.int .u64 x1))
      rw [set_u64s, fill_set (map_get EP.out) hkn] at S1
      have O2' := hd (O2.out.fr (fr_setCell wr G1 k (.int .u64 x1)) fun b e e' => by have e'' : b = G1 := e'; cases e; exact Nat.ne_of_gt hlt.out e'')
      obtain ⟨g, eg, hg2, _, f2, ⟨v2, hv2, c2⟩, s2⟩ := O2'.out.at hkn
      cases eg
      have S2 := hd (s2 (.int .u64 x2))
      rw [set_u64s, fill_set (map_get EP.out) hkn] at S2
      have S1' := hd (S1.out.fr (fr_setCell (wr.setCell ⟨G1, k, none⟩ (.int .u64 x1)) G2 k (.int .u64 x2)) fun b e e' => by have e'' : b = G2 := e'; cases e; exact Nat.ne_of_lt hlt.out e'')
      have V1 : Hid (Below G1 w (wr.setCell ⟨G1, k, none⟩ (.int .u64 x1))) := V.out.setCell hg _
      have V2 : Hid (Below G1 w ((wr.setCell ⟨G1, k, none⟩ (.int .u64 x1)).setCell ⟨G2, k, none⟩ (.int .u64 x2))) := V1.out.setCell hg2 _
      have g2' : (wr.setCell ⟨G1, k, none⟩ (.int .u64 x1)).cell? ⟨b, off + k * 2 + 1, none⟩ = some (.int .u64 x2) := by
        obtain ⟨b', off', p', ea', ep', g1', g2'⟩ := (H.out.below (by rw [EG.out]; exact V1.out)).2.2 k hkn
        cases ea'
        rw [EP.out] at ep'
        cases ep'
        exact g2'
      clear s1 s2 hv1 hv2 V VB V1 O1 O2 O2' S1
      go_wp2
      go_roundw
      case rel => exact ⟨k + 1, by omega, by go_num, S1', S2, V2⟩
      case measure => simp [intOf]; omega
    · obtain rfl : k = n := by omega
      go_wp2
      go_ret2
      rw [EG.out]
      refine ⟨_, _, rfl, ?_, ?_, ?_⟩
      · have := O1.out
        rw [fill_all (by rw [List.length_map]; exact HL.out)] at this
        exact this
      · have := O2.out
        rw [fill_all (by rw [List.length_map]; exact HL.out)] at this
        exact this
      · exact V.out

set_option maxHeartbeats 1000000 in
theorem unspan_any (a : Option Addr) (n c : Nat) (ss : List (Int × Int)) (w : World) (h : RdS w a n ss) :
    Calls Try.prog 33 #[.slice a n c] w fun e w' => ∃ a1 a2, e = .returned (.tuple #[.slice a1 n n, .slice a2 n n]) ∧ Own w' w.heap.size 31 a1 n n (u64s (ss.map (·.1))) ∧ Own w' w.heap.size 31 a2 n n (u64s (ss.map (·.2))) ∧ Below w.heap.size w w' := by
  have hsm := h.2.1
  have HL := hd h.1
  have H := hd h
  clear h
  obtain ⟨i0, hi, hz0, hz1, hz2⟩ := info_parts Try.info31
  go_enter Try.func33, Try.ntmps33
  go_wp2_with (first | (at_make; refine wpList_make_full _ rfl _ _ 24 rfl w.heap.size 31 i0 (.int .u64 0) 1 Try.underlying24 hi hz0 hz1 .i64 .i64 n n n rfl rfl rfl rfl (by rw [hz2]; omega) (by unfold maxLen; omega) (Nat.le_refl _) ?_; intro w1 ho hg; have hbk := hd (made_block (by rfl) ho); have hbel := hd (below_grown hg); clear ho hg) | (at_make; refine wpList_make_full _ rfl _ _ 24 rfl w1.heap.size 31 i0 (.int .u64 0) 1 Try.underlying24 hi hz0 hz1 .i64 .i64 n n n rfl rfl rfl rfl (by rw [hz2]; omega) (by unfold maxLen; omega) (Nat.le_refl _) ?_; intro w2 ho hg; have hbk2 := hd (made_block (by rfl) ho); have hbel2 := hd (below_grown hg); clear ho hg))
  clear hi hz0 hz1 hz2
  obtain ⟨G1, hG1⟩ : ∃ b, w.heap.size = b := ⟨_, rfl⟩
  obtain ⟨G2, hG2⟩ : ∃ b, w1.heap.size = b := ⟨_, rfl⟩
  have O1 : Hid (Own w2 G1 31 (some ⟨G1, 0, none⟩) n n (u64s (fill (ss.map (·.1)) n 0))) := by
    show Own _ _ _ _ _ _ _
    rw [fill_zero, ← hG1]
    exact (Own.fresh hbk.out (Nat.le_refl _) (by simp) hsm).below hbel2.out
  have hlt : Hid (G1 < G2) := by
    have := heap_lt hbk.out
    show G1 < G2
    omega
  have O2 : Hid (Own w2 G1 31 (some ⟨G2, 0, none⟩) n n (u64s (fill (ss.map (·.2)) n 0))) := by
    show Own _ _ _ _ _ _ _
    rw [fill_zero]
    refine Own.fresh ?_ (Nat.le_of_lt hlt.out) (by simp) hsm
    rw [← hG2]
    exact hbk2.out
  have V2 := hd (bl hbel.out hbel2.out)
  clear hbk hbk2 hbel hbel2
  rw [hG1] at V2 ⊢
  rw [hG2]
  have EG := hd hG1
  clear hG1 hG2
  go_loopw [6] (fun iv wr => ∃ k : Nat, k ≤ n ∧ iv = .int .i64 k ∧ Hid (Own wr G1 31 (some ⟨G1, 0, none⟩) n n (u64s (fill (ss.map (·.1)) n k))) ∧ Hid (Own wr G1 31 (some ⟨G2, 0, none⟩) n n (u64s (fill (ss.map (·.2)) n k))) ∧ Hid (Below G1 w wr)) (fun iv _ => n - (intOf iv).toNat)
  case atStart => exact ⟨0, Nat.zero_le _, rfl, O1, O2, V2⟩
  case round =>
    clear O1 O2 V2
    obtain ⟨k, hk, rfl, O1, O2, V⟩ := hrel
    by_cases hkn : k < n
    · have hkn' : (k : Int) < (n : Int) := by omega
      have VB : Hid (Below w.heap.size w wr) := by show Below _ _ _; rw [EG.out]; exact V.out
      obtain ⟨b, off, p, ea, ep, g1, g2⟩ := (H.out.below VB.out).2.2 k hkn
      have EP := hd ep
      have EA := hd ea
      clear ea ep
      obtain rfl := EA.out
      clear EA
      obtain ⟨x1, x2⟩ := p
      obtain ⟨g, eg, hg, _, f1, ⟨v1, hv1, c1⟩, s1⟩ := O1.out.at hkn
      cases eg
      have S1 := hd (s1 (.int .u64 x1))
      rw [set_u64s, fill_set (map_get EP.out) hkn] at S1
      have O2' := hd (O2.out.fr (fr_setCell wr G1 k (.int .u64 x1)) fun b e e' => by have e'' : b = G1 := e'; cases e; exact Nat.ne_of_gt hlt.out e'')
      obtain ⟨g, eg, hg2, _, f2, ⟨v2, hv2, c2⟩, s2⟩ := O2'.out.at hkn
      cases eg
      have S2 := hd (s2 (.int .u64 x2))
      rw [set_u64s, fill_set (map_get EP.out) hkn] at S2
      have S1' := hd (S1.out.fr (fr_setCell (wr.setCell ⟨G1, k, none⟩ (.int .u64 x1)) G2 k (.int .u64 x2)) fun b e e' => by have e'' : b = G2 := e'; cases e; exact Nat.ne_of_lt hlt.out e'')
      have V1 : Hid (Below G1 w (wr.setCell ⟨G1, k, none⟩ (.int .u64 x1))) := V.out.setCell hg _
      have V2 : Hid (Below G1 w ((wr.setCell ⟨G1, k, none⟩ (.int .u64 x1)).setCell ⟨G2, k, none⟩ (.int .u64 x2))) := V1.out.setCell hg2 _
      have g2' : (wr.setCell ⟨G1, k, none⟩ (.int .u64 x1)).cell? ⟨b, off + k * 2 + 1, none⟩ = some (.int .u64 x2) := by
        obtain ⟨b', off', p', ea', ep', g1', g2'⟩ := (H.out.below (by rw [EG.out]; exact V1.out)).2.2 k hkn
        cases ea'
        rw [EP.out] at ep'
        cases ep'
        exact g2'
      clear s1 s2 hv1 hv2 V VB V1 O1 O2 O2' S1
      go_wp2
      go_roundw
      case rel => exact ⟨k + 1, by omega, by go_num, S1', S2, V2⟩
      case measure => simp [intOf]; omega
    · obtain rfl : k = n := by omega
      go_wp2
      go_ret2
      rw [EG.out]
      refine ⟨_, _, rfl, ?_, ?_, ?_⟩
      · have := O1.out
        rw [fill_all (by rw [List.length_map]; exact HL.out)] at this
        exact this
      · have := O2.out
        rw [fill_all (by rw [List.length_map]; exact HL.out)] at this
        exact this
      · exact V.out

theorem take_eq_succ {α : Type} {l m : List α} {k : Nat} {x : α} (h1 : l[k]? = some x) (h2 : m[k]? = some x) (h : l.take k = m.take k) : l.take (k + 1) = m.take (k + 1) := by
  rw [take_succ_of h1, take_succ_of h2, h]
theorem dec_ne {α : Type} [DecidableEq α] {l m : List α} {k : Nat} {x y : α} (h1 : l[k]? = some x) (h2 : m[k]? = some y) (h : ¬ x = y) : false = decide (l = m) := by
  symm
  rw [decide_eq_false_iff_not]
  intro e
  rw [e, h2] at h1
  exact h (Option.some.inj h1).symm
theorem dec_len {α : Type} [DecidableEq α] {l m : List α} {n k : Nat} (h : l.length = n ∧ m.length = k) (hne : ¬ n = k) : false = decide (l = m) := by
  symm
  rw [decide_eq_false_iff_not]
  intro e
  rw [e] at h
  exact hne (h.1.symm.trans h.2)
theorem dec_all {α : Type} [DecidableEq α] {l m : List α} {n k : Nat} (h : l.length = n ∧ m.length = n) (hk : ¬ k < n) (he : l.take k = m.take k) : true = decide (l = m) := by
  rw [List.take_of_length_le (by omega), List.take_of_length_le (by omega)] at he
  simp [he]

set_option maxHeartbeats 400000 in
theorem same_any (a1 a2 : Option Addr) (n1 n2 c1 c2 : Nat) (z1 z2 : List Int) (w : World) (h1 : Rd w a1 n1 (u64s z1)) (h2 : Rd w a2 n2 (u64s z2)) :
    Calls Try.prog 17 #[.slice a1 n1 c1, .slice a2 n2 c2] w fun e w' => e = .returned (.bool (decide (z1 = z2))) ∧ ∃ n, w' = w.drewN n := by
  have hL1 := h1.1
  have hL2 := h2.1
  have hm1 := h1.2.1
  have hm2 := h2.2.1
  simp only [u64s_length] at hL1 hL2
  have HL : Hid (z1.length = n1 ∧ z2.length = n2) := ⟨hL1, hL2⟩
  clear hL1 hL2
  by_cases hl : n1 = n2
  · subst hl
    have H1 : Hid (Rd w a1 n1 (u64s z1)) := h1
    have H2 : Hid (Rd w a2 n1 (u64s z2)) := h2
    clear h1 h2
    go_enter Try.func17, Try.ntmps17
    go_wp2
    go_loopw [5] (fun i wr => ∃ k q : Nat, k ≤ n1 ∧ i = .int .i64 k ∧ wr = w.drewN q ∧ Hid (z1.take k = z2.take k)) (fun i _ => n1 - (intOf i).toNat)
    case atStart => exact ⟨0, 0, Nat.zero_le _, rfl, rfl, by simp [Hid]⟩
    case round =>
      obtain ⟨k, q, hk, rfl, rfl, HE⟩ := hrel
      by_cases hlt : k < n1
      · obtain ⟨b1, o1, x1, rfl, e1, g1⟩ := Rd.u64 H1.out hlt
        obtain ⟨b2, o2, x2, rfl, e2, g2⟩ := Rd.u64 H2.out hlt
        have E1 : Hid (z1[k]? = some x1) := e1
        have E2 : Hid (z2[k]? = some x2) := e2
        clear e1 e2
        have hlt' : (k : Int) < (n1 : Int) := by omega
        by_cases hx : x1 = x2
        · subst hx
          go_wp2
          go_quiet (fail)
          go_wp2
          go_roundw
          case rel => exact ⟨k + 1, _, by omega, by go_num, rfl, take_eq_succ E1.out E2.out HE.out⟩
          case measure => simp [intOf]; omega
        · have HX : Hid (¬ x1 = x2) := hx
          have hb : (x1 != x2) = true := by simp [hx]
          clear hx
          go_wp2
          go_quiet (fail)
          go_wp2
          go_ret
          exact ⟨ret_bool (dec_ne E1.out E2.out HX.out), _, World.drewN_drewN _ _ _⟩
      · go_wp2
        go_ret
        exact ⟨ret_bool (dec_all HL.out hlt HE.out), q, rfl⟩
  · have hb : ((n1 : Int) != (n2 : Int)) = true := by simp; omega
    go_enter Try.func17, Try.ntmps17
    go_wp2
    go_ret
    exact ⟨ret_bool (dec_len HL.out hl), 0, rfl⟩

def sumOk (n : Nat) : Bool := decide (n ≤ 1048576)
theorem sumOk_yes {n : Nat} (h : n ≤ 1048576) : true = sumOk n := by simp [sumOk, h]
theorem sumOk_no {n : Nat} (h : 1048576 < n) : false = sumOk n := by simp [sumOk]; omega
set_option maxHeartbeats 1000000 in
theorem zz_any (x0 x1 x3 x4 : Int) (a2 : Option Addr) (n2 c2 : Nat) (a5 : Option Addr) (n5 c5 : Nat) (w : World) (h2 : n2 ≤ 9223372036854775807) (h5 : n5 ≤ 9223372036854775807) :
    Calls Try.prog 31 #[.int .u64 x0, .int .u64 x1, .slice a2 n2 c2, .int .u64 x3, .int .u64 x4, .slice a5 n5 c5] w fun e w' => e = .returned (.bool (sumOk (n2 + n5))) ∧ w' = w := by
  go_enter Try.func31, Try.ntmps31
  go_wp2
  all_goals
    go_ret
    exact ⟨ret_bool (by first | exact sumOk_yes (by omega) | exact sumOk_no (by omega)), rfl⟩
end Go.Proofs.Qxb6600760a
