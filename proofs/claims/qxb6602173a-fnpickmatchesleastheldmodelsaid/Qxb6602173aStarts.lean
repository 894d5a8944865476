import Derived.Test.Qxb6602173aMake
namespace Go.Proofs.Qxb6602173a
open Go.RowKit
set_option linter.unusedVariables false
set_option linter.unusedSimpArgs false

def heldAt (held : List Int) (j : Int) : Int := held.getD j.toNat 0
def cntF (held ord : List Int) (skip : Int) (m : Nat) : Nat := ord.countP fun j => j != skip && heldAt held j == (m : Int)
def lowF (held ord : List Int) (skip : Int) (m : Nat) : Nat := ord.countP fun j => j != skip && decide (heldAt held j < (m : Int))
def cntL (held ord : List Int) (skip : Int) (k : Nat) : List Int := (List.range k).map fun m => (cntF held ord skip m : Int)
def startsOf (held ord : List Int) (skip : Int) (k : Nat) : List Int := (List.range k).map fun m => (lowF held ord skip m : Int)

theorem cntL_length (held ord : List Int) (skip : Int) (k : Nat) : (cntL held ord skip k).length = k := by simp [cntL]
theorem startsOf_length (held ord : List Int) (skip : Int) (k : Nat) : (startsOf held ord skip k).length = k := by simp [startsOf]
theorem cntL_get (held ord : List Int) (skip : Int) (k m : Nat) (h : m < k) : (cntL held ord skip k)[m]? = some (cntF held ord skip m : Int) := by simp [cntL, h]
theorem startsOf_get (held ord : List Int) (skip : Int) (k m : Nat) (h : m < k) : (startsOf held ord skip k)[m]? = some (lowF held ord skip m : Int) := by simp [startsOf, h]
theorem cntF_le (held ord : List Int) (skip : Int) (m : Nat) : cntF held ord skip m ≤ ord.length := List.countP_le_length
theorem lowF_le (held ord : List Int) (skip : Int) (m : Nat) : lowF held ord skip m ≤ ord.length := List.countP_le_length
theorem lowF_succ (held ord : List Int) (skip : Int) (m : Nat) : lowF held ord skip (m + 1) = lowF held ord skip m + cntF held ord skip m := by
  unfold lowF cntF
  induction ord with
  | nil => rfl
  | cons j r ih =>
    simp only [List.countP_cons, ih]
    by_cases hj : j = skip
    · simp [hj]
    · simp only [bne_iff_ne.2 hj, Bool.true_and]
      by_cases h1 : heldAt held j < (m : Int)
      · have h2 : heldAt held j < ((m + 1 : Nat) : Int) := by omega
        have h3 : (heldAt held j == (m : Int)) = false := by simp; omega
        simp only [h1, h2, h3, decide_true, if_true]
        simp; omega
      · by_cases h4 : heldAt held j = (m : Int)
        · have h2 : heldAt held j < ((m + 1 : Nat) : Int) := by omega
          have h3 : (heldAt held j == (m : Int)) = true := by simp; omega
          simp only [h1, h2, h3, decide_true, if_true]
          simp; omega
        · have h2 : ¬ heldAt held j < ((m + 1 : Nat) : Int) := by omega
          have h3 : (heldAt held j == (m : Int)) = false := by simp; omega
          simp only [h1, h2, h3, decide_false]
          simp
theorem lowF_zero (held ord : List Int) (skip : Int) (h : ∀ j ∈ ord, j ≠ skip → 0 ≤ heldAt held j) : lowF held ord skip 0 = 0 := by
  unfold lowF
  rw [List.countP_eq_zero]
  intro j hj
  by_cases hs : j = skip
  · simp [hs]
  · have := h j hj hs
    simp [hs]; omega
theorem cntL_skip (held ord : List Int) (skip : Int) (k q : Nat) {j : Int} (hq : ord[q]? = some j) (hj : j = skip) : cntL held (ord.take (q + 1)) skip k = cntL held (ord.take q) skip k := by
  unfold cntL cntF
  rw [take_succ_of hq]
  simp [hj]
theorem cntL_step (held ord : List Int) (skip : Int) (k q h : Nat) {j : Int} (hq : ord[q]? = some j) (hj : ¬ j = skip) (hh : heldAt held j = (h : Int)) (hk : h < k) :
    cntL held (ord.take (q + 1)) skip k = (cntL held (ord.take q) skip k).set h ((cntF held (ord.take q) skip h : Int) + 1) := by
  apply List.ext_getElem?
  intro m
  rw [List.getElem?_set]
  by_cases hm : m < k
  · rw [cntL_get _ _ _ _ _ hm, cntL_get _ _ _ _ _ hm, cntL_length]
    have e : cntF held (ord.take (q + 1)) skip m = cntF held (ord.take q) skip m + if h = m then 1 else 0 := by
      unfold cntF
      rw [take_succ_of hq, List.countP_append]
      congr 1
      simp only [List.countP_cons, List.countP_nil, hh, bne_iff_ne.2 hj, Bool.true_and]
      by_cases e : h = m
      · simp [e]
      · have : ((h : Int) == (m : Int)) = false := by simp; omega
        simp [this, e]
    rw [e]
    by_cases e2 : h = m
    · subst e2; simp [hk]
    · simp [e2]
  · rw [List.getElem?_eq_none (by rw [cntL_length]; omega), if_neg (by omega), List.getElem?_eq_none (by rw [cntL_length]; omega)]

/-- The whole of a block. -/
def Full (w : World) (g : Nat) (e : TypeId) (vs : List Value) : Prop := w.heap[g]? = some (.cells vs.toArray e (0, 0))
theorem Full.cell {w : World} {g : Nat} {e : TypeId} {zs : List Int} (h : Full w g e (ints zs)) {i : Nat} {x : Int} (hx : zs[i]? = some x) : w.cell? ⟨g, i, none⟩ = some (.int .i64 x) ∧ w.frozen? ⟨g, i, none⟩ = false := by
  unfold Full at h
  constructor
  · simp [World.cell?, h, ints, hx]
  · simp [World.frozen?, h]
theorem Full.set {w : World} {g : Nat} {e : TypeId} {zs : List Int} (h : Full w g e (ints zs)) (i : Nat) (x : Int) : Full (w.setCell ⟨g, i, none⟩ (.int .i64 x)) g e (ints (zs.set i x)) := by
  unfold Full at h ⊢
  rw [heap_setCell_at h, ← set_ints]
  simp
theorem Full.other {w : World} {g : Nat} {e : TypeId} {vs : List Value} (h : Full w g e vs) {g' i : Nat} (hne : g ≠ g') (u : Value) : Full (w.setCell ⟨g', i, none⟩ u) g e vs := by
  unfold Full at h ⊢
  rw [Below.heap_setCell _ _ _ _ hne]; exact h
theorem Full.grown {w w1 : World} {g : Nat} {e : TypeId} {vs : List Value} (h : Full w g e vs) (hb : Below w.heap.size w w1) : Full w1 g e vs := by
  unfold Full at h ⊢
  rw [hb.block g (heap_lt h)]; exact h
theorem replicate_cnt (held : List Int) (skip : Int) (k : Nat) (ord : List Int) : ints (cntL held (ord.take 0) skip k) = List.replicate k (.int .i64 0) := by
  apply List.ext_getElem (by simp [ints, cntL])
  intro i h1 h2
  simp [ints, cntL, cntF]

set_option maxHeartbeats 1000000 in
theorem startsOf_any (aH aO : Option Addr) (n cH l cO k : Nat) (held ord : List Int) (skip : Int) (w : World) (hH : Rd w aH n (ints held)) (hO : Rd w aO l (ints ord)) (hk : k ≤ 16777216)
    (hin : ∀ j ∈ ord, j ≠ skip → 0 ≤ j ∧ j < n ∧ 0 ≤ heldAt held j ∧ heldAt held j < k) :
    Calls Try.prog 23 #[.slice aH n cH, .slice aO l cO, .int .i64 skip, .int .i64 (k : Int)] w fun e w' =>
      ∃ g, e = .returned (.slice (some ⟨g, 0, none⟩) k k) ∧ Full w' g 3 (ints (startsOf held ord skip k)) ∧ Below w.heap.size w w' ∧ w.heap.size ≤ g := by
  have hsl := hO.small
  have HL : Hid (ord.length = l) := by have := hO.len; rwa [ints_length] at this
  have HH : Hid (Rd w aH n (ints held)) := hH
  have HO : Hid (Rd w aO l (ints ord)) := hO
  have HI : Hid (∀ j ∈ ord, j ≠ skip → 0 ≤ j ∧ j < n ∧ 0 ≤ heldAt held j ∧ heldAt held j < k) := hin
  clear hH hO hin
  obtain ⟨i0, hi, hz0, hz1, hz2⟩ := info_parts Try.info3
  go_enter Try.func23, Try.ntmps23
  go_wp2_with (first | (at_make; refine wpList_make_full _ rfl _ _ 24 rfl w.heap.size 3 i0 (.int .i64 0) 1 Try.underlying24 hi hz0 hz1 .i64 .i64 k k k rfl rfl rfl rfl (by rw [hz2]; omega) (by unfold maxLen; omega) (Nat.le_refl _) ?_; intro w1 ho hg; have hbk := made_block (by rfl) ho; have hbel := below_grown hg; clear ho hg))
  go_loopw [19] (fun i wr => ∃ q : Nat, q ≤ l ∧ i = .int .i64 q ∧ Hid (Full wr w.heap.size 3 (ints (cntL held (ord.take q) skip k))) ∧ Hid (Below w.heap.size w wr)) (fun i _ => l - (intOf i).toNat)
  case atStart => exact ⟨0, Nat.zero_le _, rfl, by show Full _ _ _ _; rw [replicate_cnt]; exact hbk, hbel⟩
  case round =>
    obtain ⟨q, hq, rfl, HF, HB⟩ := hrel
    clear hbk hbel
    by_cases hlt : q < l
    · obtain ⟨b, o, j, rfl, e1, g1⟩ := (HO.out.below HB.out).int hlt
      have E1 : Hid (ord[q]? = some j) := e1
      have hmem := List.mem_of_getElem? e1
      clear e1
      by_cases hj : j = skip
      · have HJ : Hid (j = skip) := hj
        have hjb : (j != skip) = false := by simp [hj]
        clear hj hmem
        go_wp2
        go_roundw
        case rel => exact ⟨q + 1, by omega, by go_num, by show Full _ _ _ _; rw [cntL_skip held ord skip k q E1.out HJ.out]; exact HF.out, HB⟩
        case measure => simp [intOf]; omega
      · obtain ⟨hj0, hjn, hh0, hhk⟩ := HI.out j hmem hj
        obtain ⟨bH, oH, hv, rfl, e2, g2⟩ := (HH.out.below HB.out).int (i := j.toNat) (by omega)
        have e3 : heldAt held j = hv := by unfold heldAt; rw [List.getD, e2]; rfl
        rw [e3] at hh0 hhk
        obtain ⟨h, rfl⟩ := Int.eq_ofNat_of_zero_le hh0
        have HJ : Hid (¬ j = skip) := hj
        have HE : Hid (heldAt held j = (h : Int)) := e3
        have hjb : (j != skip) = true := by simp [hj]
        have hhk' : h < k := by omega
        obtain ⟨g3, f3⟩ := HF.out.cell (cntL_get held (ord.take q) skip k h hhk')
        have hcle := cntF_le held (ord.take q) skip h
        rw [List.length_take] at hcle
        obtain ⟨cc, hcc⟩ : ∃ cc, cntF held (ord.take q) skip h = cc := ⟨_, rfl⟩
        rw [hcc] at g3 hcle
        have HC : Hid (cntF held (ord.take q) skip h = cc) := hcc
        have hccl : cc ≤ 16777216 := by omega
        clear hj hmem e2 e3 hcc hcle
        go_wp2
        go_roundw
        case rel => exact ⟨q + 1, by omega, by go_num, by show Full _ _ _ _; rw [cntL_step held ord skip k q h E1.out HJ.out HE.out hhk', HC.out]; exact HF.out.set _ _, HB.out.setCell (Nat.le_refl _) _⟩
        case measure => simp [intOf]; omega
    · have HF2 : Hid (Full wr w.heap.size 3 (ints (cntL held ord skip k))) := by
        have := HF.out
        rw [List.take_of_length_le (by have := HL.out; omega)] at this
        exact this
      clear HF
      have hgl : w.heap.size < wr.heap.size := heap_lt HF2.out
      go_wp2_with (first | (at_make; refine wpList_make_full _ rfl _ _ 24 rfl wr.heap.size 3 i0 (.int .i64 0) 1 Try.underlying24 hi hz0 hz1 .i64 .i64 k k k rfl rfl rfl rfl (by rw [hz2]; omega) (by unfold maxLen; omega) (Nat.le_refl _) ?_; intro w2 ho hg; have hbk := made_block (by rfl) ho; have hbel := below_grown hg; clear ho hg))
      have S1 : Hid (Full w2 w.heap.size 3 (ints (cntL held ord skip k))) := HF2.out.grown hbel
      have S2 : Hid (Below w.heap.size w w2) := HB.out.trans (hbel.mono HB.out.size)
      clear hbel HB HF2
      generalize wr.heap.size = gO at hbk hgl ⊢
      go_loopw [13, 14] (fun b i w3 => ∃ m : Nat, m ≤ k ∧ i = .int .i64 m ∧ b = .int .i64 (lowF held ord skip m : Int) ∧ Hid (Fill w3 gO 3 k (ints (startsOf held ord skip k)) (.int .i64 0) m) ∧ Hid (Full w3 w.heap.size 3 (ints (cntL held ord skip k))) ∧ Hid (Below w.heap.size w w3)) (fun _ i _ => k - (intOf i).toNat)
      case atStart => exact ⟨0, Nat.zero_le _, rfl, by rw [lowF_zero held ord skip (fun j hj hs => (HI.out j hj hs).2.2.1)]; rfl, Fill.start hbk, S1, S2⟩
      case round =>
        obtain ⟨m, hm, rfl, rfl, G1, G2, G3⟩ := hrel
        clear hbk S1 S2
        have hs1 : (ints (startsOf held ord skip k)).length = k := by rw [ints_length, startsOf_length]
        have HS1 : Hid ((ints (startsOf held ord skip k)).length = k) := hs1
        clear hs1
        have hlo := lowF_le held ord skip m
        have HSu : Hid (lowF held ord skip (m + 1) = lowF held ord skip m + cntF held ord skip m) := lowF_succ held ord skip m
        have hcl := cntF_le held ord skip m
        have hol : ord.length ≤ 16777216 := by have := HL.out; omega
        by_cases hmk : m < k
        · obtain ⟨g1, f1⟩ := G1.out.cell HS1.out hmk
          obtain ⟨g2, f2⟩ := G2.out.cell (cntL_get held ord skip k m hmk)
          have E1 : Hid ((ints (startsOf held ord skip k))[m]? = some (.int .i64 (lowF held ord skip m : Int))) := by show _ = _; rw [ints, List.getElem?_map, startsOf_get _ _ _ _ _ hmk]; rfl
          obtain ⟨lo, hlo'⟩ : ∃ lo, lowF held ord skip m = lo := ⟨_, rfl⟩
          obtain ⟨cc, hcc'⟩ : ∃ cc, cntF held ord skip m = cc := ⟨_, rfl⟩
          rw [hlo'] at E1 hlo HSu ⊢
          rw [hcc'] at g2 hcl HSu
          clear hlo' hcc'
          have hne : ¬ w.heap.size = gO := by omega
          have hne2 : ¬ gO = w.heap.size := by omega
          go_wp2
          go_roundw
          case rel => exact ⟨m + 1, by omega, by go_num, by rw [HSu.out]; go_num, G1.out.step HS1.out hmk E1.out, G2.out.other hne _, G3.out.setCell (by simp; omega) _⟩
          case measure => simp [intOf]; omega
        · go_wp2
          go_ret
          exact ⟨_, rfl, G1.out.done HS1.out (by omega), G3.out, by omega⟩
end Go.Proofs.Qxb6602173a
