import Derived.Test.Qxb6600760aSplit
namespace Go.Proofs.Qxb6600760a
open Go.RowKit
set_option linter.unusedVariables false
set_option linter.unusedSimpArgs false

/-- The cells of a row of pairs. -/
def flat : List (Int × Int) → List Value
  | [] => []
  | p :: t => .int .u64 p.1 :: .int .u64 p.2 :: flat t
theorem flat_length : ∀ l : List (Int × Int), (flat l).length = l.length * 2
  | [] => rfl
  | p :: t => by simp [flat, flat_length t]; omega
theorem flat_get : ∀ {l : List (Int × Int)} {i : Nat} {p : Int × Int}, l[i]? = some p → (flat l)[i * 2]? = some (.int .u64 p.1) ∧ (flat l)[i * 2 + 1]? = some (.int .u64 p.2)
  | [], i, p, h => by simp at h
  | q :: t, 0, p, h => by simp at h; subst h; simp [flat]
  | q :: t, i + 1, p, h => by
    simp at h
    have := flat_get (l := t) h
    rw [show (i + 1) * 2 = i * 2 + 1 + 1 by omega]
    exact this
theorem flat_append : ∀ a b : List (Int × Int), flat (a ++ b) = flat a ++ flat b
  | [], b => rfl
  | p :: t, b => by simp [flat, flat_append t b]
theorem flat_set : ∀ (l : List (Int × Int)) (i : Nat) (p : Int × Int), ((flat l).set (i * 2) (.int .u64 p.1)).set (i * 2 + 1) (.int .u64 p.2) = flat (l.set i p)
  | [], i, p => rfl
  | q :: t, 0, p => by simp [flat]
  | q :: t, i + 1, p => by
    have := flat_set t i p
    rw [show (i + 1) * 2 = i * 2 + 1 + 1 by omega]
    simp [flat, this]
theorem flat_drop : ∀ (l : List (Int × Int)) (k : Nat), flat (l.drop k) = (flat l).drop (k * 2)
  | [], k => by simp [flat]
  | q :: t, 0 => by simp
  | q :: t, k + 1 => by
    rw [show (k + 1) * 2 = k * 2 + 1 + 1 by omega]
    simp [flat, flat_drop t k]
theorem flat_one : ∀ l : List (Int × Int), ∀ u ∈ flat l, u.oneCell' = true
  | [], u, h => by simp [flat] at h
  | p :: t, u, h => by
    simp only [flat, List.mem_cons] at h
    rcases h with rfl | rfl | h
    · rfl
    · rfl
    · exact flat_one t u h
theorem flat_zeros (n : Nat) : (madeCells #[.int .u64 0, .int .u64 0] (n * 2)).toList = flat (List.replicate n (0, 0)) := by
  apply List.ext_getElem
  · simp [madeCells, flat_length]
  · intro i h1 h2
    have h3 : i < n * 2 := by simpa [madeCells] using h1
    have hq : (List.replicate n ((0 : Int), (0 : Int)))[i / 2]? = some (0, 0) := by
      rw [List.getElem?_replicate, if_pos (by omega)]
    have hg := flat_get hq
    simp only [madeCells, Array.toList_map, List.getElem_map, Array.toList_range, List.getElem_range]
    rcases Nat.mod_two_eq_zero_or_one i with e | e
    · have := hg.1
      rw [show i / 2 * 2 = i by omega] at this
      rw [(List.getElem?_eq_some_iff.1 this).2]
      simp [e]
    · have := hg.2
      rw [show i / 2 * 2 + 1 = i by omega] at this
      rw [(List.getElem?_eq_some_iff.1 this).2]
      simp [e]

/-- A row of spans of the clock's own: block g, between B and T. -/
def OwnS (w : World) (B T g n cap : Nat) (ss : List (Int × Int)) : Prop :=
  ss.length = n ∧ n ≤ cap ∧ cap ≤ 16777216 ∧ B ≤ g ∧ g < T ∧ ∃ rest, w.heap[g]? = some (.cells (flat ss ++ rest).toArray 65 (0, 0)) ∧ (flat ss ++ rest).length = cap * 2
theorem OwnS.fr {F : Nat → Prop} {w w' : World} {B T g n cap : Nat} {ss : List (Int × Int)} (h : OwnS w B T g n cap ss) (hf : Fr F w w') (hF : ¬ F g) : OwnS w' B T g n cap ss := by
  obtain ⟨h1, h2, h3, h4, h5, rest, hg, hl⟩ := h
  exact ⟨h1, h2, h3, h4, h5, rest, by rw [hf.block g (heap_lt hg) hF]; exact hg, hl⟩
theorem OwnS.rd {w : World} {B T g n cap : Nat} {ss : List (Int × Int)} (h : OwnS w B T g n cap ss) : RdS w (some ⟨g, 0, none⟩) n ss := by
  obtain ⟨h1, h2, h3, h4, h5, rest, hg, hl⟩ := h
  refine ⟨h1, by omega, fun i hi => ?_⟩
  obtain ⟨p, hp⟩ : ∃ p, ss[i]? = some p := ⟨_, List.getElem?_eq_getElem (by omega)⟩
  obtain ⟨c1, c2⟩ := flat_get hp
  have hfl := flat_length ss
  refine ⟨g, 0, p, rfl, hp, ?_, ?_⟩
  · simp [World.cell?, hg]
    rw [List.getElem?_append_left (by omega)]
    exact c1
  · simp [World.cell?, hg]
    rw [List.getElem?_append_left (by omega)]
    exact c2
theorem OwnS.lt {w : World} {B T g n cap : Nat} {ss : List (Int × Int)} (h : OwnS w B T g n cap ss) : g < w.heap.size := by
  obtain ⟨h1, h2, h3, h4, h5, rest, hg, hl⟩ := h
  exact heap_lt hg

def fillS (l : List (Int × Int)) (n k : Nat) : List (Int × Int) := l.take k ++ List.replicate (n - k) (0, 0)
theorem fillS_set {l : List (Int × Int)} {n k : Nat} {x : Int × Int} (hx : l[k]? = some x) (hk : k < n) : (fillS l n k).set k x = fillS l n (k + 1) := by
  unfold fillS
  have hl : k < l.length := (List.getElem?_eq_some_iff.1 hx).1
  rw [List.set_append_right _ _ (by simp; omega), take_succ_of hx, show n - k = (n - (k + 1)) + 1 by omega, List.replicate_succ]
  simp [Nat.min_eq_left (Nat.le_of_lt hl)]
theorem fillS_all {l : List (Int × Int)} {n : Nat} (h : l.length = n) : fillS l n n = l := by
  unfold fillS
  rw [List.take_of_length_le (by omega)]
  simp
theorem fillS_len {l : List (Int × Int)} {n k : Nat} (hk : k ≤ n) (hl : l.length = n) : (fillS l n k).length = n := by
  unfold fillS
  simp
  omega
theorem madeS {w : World} {B g n : Nat} (h : w.ownsRow B 65 2 (.slice (some ⟨g, 0, none⟩) n n) n (madeCells #[.int .u64 0, .int .u64 0] (n * 2)).toList) :
    w.heap[g]? = some (.cells (flat (List.replicate n (0, 0))).toArray 65 (0, 0)) := by
  obtain ⟨hl, h⟩ := h
  rcases h with ⟨h, _⟩ | ⟨g', cap, cur, hv, _, hg, _, _, hs, ht⟩
  · cases h
  · simp at hv
    obtain ⟨rfl, rfl⟩ := hv
    rw [flat_zeros, List.take_of_length_le (by simp [hs])] at ht
    rw [hg]
    simp [← ht]
/-- A block of pairs: its cells, and one pair stored. -/
theorem blockS {w : World} {g : Nat} {l : List (Int × Int)} (hg : w.heap[g]? = some (.cells (flat l).toArray 65 (0, 0))) {k : Nat} (hk : k < l.length) (x : Int × Int) :
    w.frozen? ⟨g, k * 2, none⟩ = false ∧ w.frozen? ⟨g, k * 2 + 1, none⟩ = false ∧ (∃ v, w.cell? ⟨g, k * 2, none⟩ = some v) ∧ (∃ v, w.cell? ⟨g, k * 2 + 1, none⟩ = some v) ∧
      ((w.setCell ⟨g, k * 2, none⟩ (.int .u64 x.1)).setCell ⟨g, k * 2 + 1, none⟩ (.int .u64 x.2)).heap[g]? = some (.cells (flat (l.set k x)).toArray 65 (0, 0)) := by
  obtain ⟨p, hp⟩ : ∃ p, l[k]? = some p := ⟨_, List.getElem?_eq_getElem hk⟩
  obtain ⟨c1, c2⟩ := flat_get hp
  refine ⟨by simp [World.frozen?, hg], by simp [World.frozen?, hg], ⟨_, by simp [World.cell?, hg]; exact c1⟩, ⟨_, by simp [World.cell?, hg]; exact c2⟩, ?_⟩
  rw [← flat_set]
  simp only [World.setCell, Array.getElem?_modify, if_pos, hg, Option.map_some]
  simp

set_option maxHeartbeats 1000000 in
theorem spans_any (a1 a2 : Option Addr) (n c1 c2 : Nat) (ss : List (Int × Int)) (w : World) (h1 : Rd w a1 n (u64s (ss.map (·.1)))) (h2 : Rd w a2 n (u64s (ss.map (·.2)))) (hn : ss.length = n) :
    Calls Try.prog 35 #[.slice a1 n c1, .slice a2 n c2] w fun e w' => e = .returned (.slice (some ⟨w.heap.size, 0, none⟩) n n) ∧ OwnS w' w.heap.size w'.heap.size w.heap.size n n ss ∧ Below w.heap.size w w' := by
  have hsm := h1.2.1
  have H1 := hd h1
  have H2 := hd h2
  have HN := hd hn
  clear h1 h2 hn
  obtain ⟨i0, hi, hz0, hz1, hz2⟩ := info_parts Try.info65
  go_enter Try.func35, Try.ntmps35
  go_wp2_with (first | (at_make; refine wpList_make_full _ rfl _ _ 53 rfl w.heap.size 65 i0 (.agg #[.int .u64 0, .int .u64 0]) 2 Try.underlying53 hi hz0 hz1 .i64 .i64 n n n rfl rfl rfl rfl (by rw [hz2]; omega) (by unfold maxLen; omega) (Nat.le_refl _) ?_; intro w1 ho hg; have hbk := hd (madeS ho); have hbel := hd (below_grown hg); clear ho hg))
  clear hi hz0 hz1 hz2
  obtain ⟨G, hG⟩ : ∃ b, w.heap.size = b := ⟨_, rfl⟩
  have O0 : Hid (w1.heap[G]? = some (.cells (flat (fillS ss n 0)).toArray 65 (0, 0))) := by
    show _ = _
    rw [← hG, hbk.out]
    simp [fillS]
  rw [hG] at hbel ⊢
  have EG := hd hG
  clear hG hbk
  go_loopw [7] (fun iv wr => ∃ k : Nat, k ≤ n ∧ iv = .int .i64 k ∧ Hid (wr.heap[G]? = some (.cells (flat (fillS ss n k)).toArray 65 (0, 0))) ∧ Hid (Below G w wr)) (fun iv _ => n - (intOf iv).toNat)
  case atStart => exact ⟨0, Nat.zero_le _, rfl, O0, hbel⟩
  case round =>
    clear O0 hbel
    obtain ⟨k, hk, rfl, O, V⟩ := hrel
    by_cases hkn : k < n
    · have hkn' : (k : Int) < (n : Int) := by omega
      have VB : Hid (Below w.heap.size w wr) := by show Below _ _ _; rw [EG.out]; exact V.out
      obtain ⟨b1, o1, x1, e1, p1, g1⟩ := (H1.out.below VB.out).u64 hkn
      obtain ⟨b2, o2, x2, e2, p2, g2⟩ := (H2.out.below VB.out).u64 hkn
      have A1 := hd e1
      have A2 := hd e2
      have P1 := hd p1
      have P2 := hd p2
      clear e1 e2 p1 p2
      obtain rfl := A1.out
      obtain rfl := A2.out
      clear A1 A2
      have hp : ss[k]? = some (x1, x2) := by
        have q1 := P1.out
        have q2 := P2.out
        rw [List.getElem?_map] at q1 q2
        cases hs : ss[k]? with
        | none => rw [hs] at q1; cases q1
        | some p =>
          rw [hs] at q1 q2
          cases p
          simp at q1 q2
          rw [q1, q2]
      have HP := hd hp
      obtain ⟨f1, f2, ⟨v1, c1'⟩, ⟨v2, c2'⟩, hset⟩ := blockS O.out (k := k) (by rw [fillS_len hk HN.out]; exact hkn) (x1, x2)
      rw [fillS_set HP.out hkn] at hset
      have S := hd hset
      have V1 : Hid (Below G w (wr.setCell ⟨G, k * 2, none⟩ (.int .u64 x1))) := V.out.setCell (Nat.le_refl _) _
      have V2 : Hid (Below G w ((wr.setCell ⟨G, k * 2, none⟩ (.int .u64 x1)).setCell ⟨G, k * 2 + 1, none⟩ (.int .u64 x2))) := V1.out.setCell (Nat.le_refl _) _
      clear hset hp V V1 VB O P1 P2
      go_wp2
      go_region
      go_wp2
      go_roundw
      case rel => exact ⟨k + 1, by omega, by go_num, S, V2.out.drew⟩
      case measure => simp [intOf]; omega
    · obtain rfl : k = n := by omega
      go_wp2
      go_ret
      have hO := O.out
      rw [fillS_all HN.out] at hO
      rw [EG.out]
      exact ⟨rfl, ⟨HN.out, Nat.le_refl _, hsm, Nat.le_refl _, heap_lt hO, [], by simpa using hO, by simp [flat_length, HN.out]⟩, V.out⟩
end Go.Proofs.Qxb6600760a
