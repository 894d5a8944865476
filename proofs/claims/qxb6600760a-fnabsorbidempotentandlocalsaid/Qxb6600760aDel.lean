import Derived.Test.Qxb6600760aSpans
namespace Go.Proofs.Qxb6600760a
open Go.RowKit
set_option linter.unusedVariables false
set_option linter.unusedSimpArgs false

def setL (l : List Value) : Nat → List Value → List Value
  | _, [] => l
  | o, v :: r => setL (l.set o v) (o + 1) r
theorem setL_len : ∀ (vs : List Value) (l : List Value) (o : Nat), (setL l o vs).length = l.length
  | [], _, _ => rfl
  | v :: r, l, o => by unfold setL; rw [setL_len r]; simp
theorem setL_past : ∀ (vs p r : List Value) (o : Nat), p.length ≤ o → setL (p ++ r) o vs = p ++ setL r (o - p.length) vs
  | [], _, _, _, _ => rfl
  | v :: t, p, r, o, h => by
    unfold setL
    rw [List.set_append_right _ _ h, setL_past t p _ (o + 1) (by omega), show o + 1 - p.length = o - p.length + 1 by omega]
theorem setL_at : ∀ (vs p l : List Value), vs.length ≤ l.length → setL (p ++ l) p.length vs = p ++ vs ++ l.drop vs.length
  | [], p, l, _ => by simp [setL]
  | v :: t, p, [], h => by simp at h
  | v :: t, p, x :: l, h => by
    unfold setL
    have := setL_at t (p ++ [v]) l (by simpa using h)
    rw [List.set_append_right _ _ (Nat.le_refl _)]
    simp at this ⊢
    exact this
theorem heap_setCells : ∀ (vs : List Value) (o : Nat) (w : World) (g : Nat) (c : List Value) (e : TypeId) (f : Nat × Nat), w.heap[g]? = some (.cells c.toArray e f) → (w.setCells g o vs).heap[g]? = some (.cells (setL c o vs).toArray e f)
  | [], _, _, _, _, _, _, h => h
  | v :: r, o, w, g, c, e, f, h => by
    unfold World.setCells setL
    refine heap_setCells r (o + 1) _ g _ e f ?_
    simp [World.setCell, Array.getElem?_modify, h]
theorem fr_setCells : ∀ (vs : List Value) (o : Nat) (w : World) (g : Nat), Fr (fun k => k = g) w (w.setCells g o vs)
  | [], _, w, g => Fr.refl _ _
  | v :: r, o, w, g => by
    unfold World.setCells
    exact (fr_setCell w g o v).trans (fr_setCells r (o + 1) _ g)
theorem Try.zero65 (w : World) : (zeroValue 65).run Try.prog w = .ok (.agg #[.int .u64 0, .int .u64 0]) w := by
  obtain ⟨i0, hi, hz0, hz1, hz2⟩ := info_parts Try.info65
  simp [zeroValue, typeInfo, hi, hz0]
theorem zeroCells_pairs (m : Nat) : (Builtin.zeroCells #[.int .u64 0, .int .u64 0] m).toList = flat (List.replicate m (0, 0)) := by
  rw [← flat_zeros]
  simp [Builtin.zeroCells, madeCells]
theorem clear_pairs (w : World) (ty : TypeId) (b o n c : Nat) (hn : 0 < n) (hc : ∀ j, j < n * 2 → (w.cell? ⟨b, o + j, none⟩).isSome = true) (hf : ∀ j, j < n * 2 → w.frozen? ⟨b, o + j, none⟩ = false) :
    (Builtin.clear_ #[53] ty #[.slice (some ⟨b, o, none⟩) n c]).run Try.prog w = .ok (.tuple #[]) (w.setCells b o (flat (List.replicate n (0, 0)))) := by
  have hst := run_storeCells_cells (P := Try.prog) b o (flat (List.replicate n (0, 0))) 0 w (by simpa [flat_length] using hc) (by simpa [flat_length] using hf) (flat_one _)
  simp only [Nat.add_zero] at hst
  obtain ⟨m, rfl⟩ : ∃ m, n = m + 1 := ⟨n - 1, by omega⟩
  have e : (Value.agg #[.int .u64 0, .int .u64 0]).cells = #[.int .u64 0, .int .u64 0] := rfl
  simp [Builtin.clear_, run_underlying Try.underlying53, Try.zero65, e, zeroCells_pairs, hst]

set_option maxHeartbeats 1000000 in
theorem delete_any (w : World) (B T g n cap k : Nat) (ss : List (Int × Int)) (h : OwnS w B T g n cap ss) (hk0 : 0 < k) (hkn : k < n) :
    Calls Try.prog 41 #[.slice (some ⟨g, 0, none⟩) n cap, .int .i64 (0 : Int), .int .i64 (k : Int)] w fun e w' => e = .returned (.slice (some ⟨g, 0, none⟩) (n - k) cap) ∧ OwnS w' B T g (n - k) cap (ss.drop k) ∧ Fr (fun j => j = g) w w' := by
  obtain ⟨hl, hnc, hc, hB, hT, rest, hg, hcl⟩ := h
  obtain ⟨i0, hi, hz0, hz1, hz2⟩ := info_parts Try.info65
  have hfl := flat_length ss
  obtain ⟨news, hnews⟩ : ∃ news, news = flat (ss.drop k) := ⟨_, rfl⟩
  have hlen : news.length = (n - k) * 2 := by rw [hnews, flat_length, List.length_drop, hl]
  have hsrc : Hid (∀ j u, news[j]? = some u → w.drew.cell? ((⟨g, k * 2, none⟩ : Addr).add j) = some u) := by
    intro j u hu
    have hj : j < news.length := (List.getElem?_eq_some_iff.1 hu).1
    rw [hnews, flat_drop, List.getElem?_drop] at hu
    rw [Addr.add_lit]
    show w.cell? _ = _
    simp [World.cell?, hg]
    rw [List.getElem?_append_left (by omega)]
    exact hu
  have s1 : Hid (news.length = (n - k) * 2) := hlen
  have s2 : Hid (∀ u ∈ news, u.oneCell' = true) := by rw [hnews]; exact flat_one _
  have s3 : Hid (∀ j, j < news.length → (w.drew.cell? ⟨g, 0 + 0 * 2 + j, none⟩).isSome = true ∧ w.drew.frozen? ⟨g, 0 + 0 * 2 + j, none⟩ = false) := by
    intro j hj
    refine ⟨?_, ?_⟩
    · show (w.cell? _).isSome = true
      simp [World.cell?, hg]
      rw [List.length_append] at hcl
      omega
    · show w.frozen? _ = false
      simp [World.frozen?, hg]
  obtain ⟨W1, hW1⟩ : ∃ W1, W1 = w.drew.setCells g (0 + 0 * 2) news := ⟨_, rfl⟩
  have hg1 : W1.heap[g]? = some (.cells (flat (ss.drop k) ++ (flat ss ++ rest).drop news.length).toArray 65 (0, 0)) := by
    have := heap_setCells news 0 w.drew g (flat ss ++ rest) 65 (0, 0) hg
    have e := setL_at news [] (flat ss ++ rest) (by rw [hcl, hlen]; omega)
    simp only [List.nil_append, List.length_nil] at e
    rw [e] at this
    rw [hW1, this, hnews]
  have hf1 : Fr (fun j => j = g) w W1 := by
    have := fr_setCells news 0 w.drew g
    rw [hW1]
    exact (Fr.mono (Fr.drewN (fun j => j = g) w 1) (fun _ _ h => h)).trans this
  have hclr : ∀ ty, (Builtin.clear_ #[53] ty #[.slice (some ⟨g, (n - k) * 2, none⟩) (n - (n - k)) (cap - (n - k))]).run Try.prog W1 = .ok (.tuple #[]) (W1.setCells g ((n - k) * 2) (flat (List.replicate (n - (n - k)) (0, 0)))) := fun ty =>
    clear_pairs W1 ty g _ _ _ (by omega) (fun j hj => by
      simp only [World.cell?, hg1]
      rw [List.length_append] at hcl
      simp [flat_length, hl, hlen]
      omega) (fun j hj => by simp [World.frozen?, hg1])
  have E1 : Hid (OwnS (W1.setCells g ((n - k) * 2) (flat (List.replicate (n - (n - k)) (0, 0)))) B T g (n - k) cap (ss.drop k)) := by
    have e := heap_setCells (flat (List.replicate (n - (n - k)) (0, 0))) ((n - k) * 2) W1 g _ 65 (0, 0) hg1
    have hp : (flat (ss.drop k)).length = (n - k) * 2 := by rw [flat_length, List.length_drop, hl]
    rw [setL_past _ _ _ _ (by rw [hp]; omega)] at e
    refine ⟨by rw [List.length_drop, hl], by omega, hc, hB, hT, _, e, ?_⟩
    rw [List.length_append, setL_len, hp, List.length_drop, hlen, hcl]
    omega
  have E2 : Hid (Fr (fun j => j = g) w (W1.setCells g ((n - k) * 2) (flat (List.replicate (n - (n - k)) (0, 0))))) := hf1.trans (fr_setCells _ _ _ _)
  have hW : Hid (W1 = w.drew.setCells g (0 + 0 * 2) news) := hW1
  have hkc : k ≤ cap := by omega
  have hkn2 : k ≤ n := by omega
  have hmn : n - k ≤ n := by omega
  have hkc' : ¬ cap = k := by omega
  have hkz : ¬ (0 : Int) = (k : Int) := by omega
  have hm1 : n - k ≤ cap := by omega
  have hm2 : ¬ cap = n - k := by omega
  have hmi : ((n - k : Nat) : Int) = (n : Int) - (k : Int) := by omega
  clear hg1 hf1 hW1 hlen hnews hg hcl hl hfl
  go_enter Try.func41, Try.ntmps41
  go_wp2_with fail
  go_region_law (refine step_append_room rfl (.tmp 22) (.tmp 25) 53 rfl 65 i0 2 Try.underlying53 hi hz1 g 0 0 cap (by simp [Act.eval, Act.put]) ⟨g, k * 2, none⟩ (n - k) (cap - k) news (by simp [Act.eval, Act.put]) s1.out hsrc.out s2.out (by omega) s3.out ?_; rw [← hW.out])
  go_wp2
  go_ret
  exact ⟨rfl, E1.out, E2.out⟩
end Go.Proofs.Qxb6600760a
