import Derived.Test.Qxb6600760aProg
import Derived.WalkKit
import Derived.WalkSpells
import Derived.WalkLawsBesides
import Derived.Deep.QuietTactic
import Derived.BigQuiet
import Derived.Maps.OwnSet
import Derived.Maps.OwnOps
import Derived.Deep.RegionLaw
import Derived.Lib.SliceRun
namespace Go.Proofs.Qxb6600760a
open Go.RowKit
set_option linter.unusedVariables false
set_option linter.unusedSimpArgs false

/-! What the walks are told of memory. -/

/-- A slice that is read: n elements, the values vs. -/
def Rd (w : World) (a : Option Addr) (n : Nat) (vs : List Value) : Prop :=
  vs.length = n ∧ n ≤ 16777216 ∧ ∀ i, i < n → ∃ b off x, a = some ⟨b, off, none⟩ ∧ vs[i]? = some x ∧ w.cell? ⟨b, off + i, none⟩ = some x

/-- A slice of the call's own (blocks from B on): n elements, the values vs, at the head of its block. -/
def Own (w : World) (B : Nat) (e : TypeId) (a : Option Addr) (n cap : Nat) (vs : List Value) : Prop :=
  vs.length = n ∧ n ≤ cap ∧ cap ≤ maxLen ∧ n ≤ 16777216 ∧
  ((a = none ∧ cap = 0) ∨ ∃ g rest, a = some ⟨g, 0, none⟩ ∧ B ≤ g ∧ w.heap[g]? = some (.cells (vs ++ rest).toArray e (0, 0)) ∧ (vs ++ rest).length = cap)

/-- Nothing that was there has turned but blocks in F. -/
structure Fr (F : Nat → Prop) (w w' : World) : Prop where
  os : w'.os = w.os
  tape : w'.tape = w.tape
  output : w'.output = w.output
  size : w.heap.size ≤ w'.heap.size
  block : ∀ k, k < w.heap.size → ¬ F k → w'.heap[k]? = w.heap[k]?

def u64s (zs : List Int) : List Value := zs.map (Value.int .u64)

/-! ### Frames -/
theorem Fr.refl (F : Nat → Prop) (w : World) : Fr F w w := ⟨rfl, rfl, rfl, Nat.le_refl _, fun _ _ _ => rfl⟩
theorem Fr.trans {F : Nat → Prop} {a b c : World} (h : Fr F a b) (k : Fr F b c) : Fr F a c :=
  ⟨k.os.trans h.os, k.tape.trans h.tape, k.output.trans h.output, Nat.le_trans h.size k.size, fun i hi hF => (k.block i (Nat.lt_of_lt_of_le hi h.size) hF).trans (h.block i hi hF)⟩
theorem Fr.mono {F G : Nat → Prop} {a b : World} (h : Fr F a b) (hFG : ∀ k, k < a.heap.size → F k → G k) : Fr G a b :=
  ⟨h.os, h.tape, h.output, h.size, fun k hk hG => h.block k hk fun hF => hG (hFG k hk hF)⟩
theorem Fr.drewN (F : Nat → Prop) (w : World) (n : Nat) : Fr F w (w.drewN n) := ⟨rfl, rfl, rfl, Nat.le_refl _, fun _ _ _ => rfl⟩
theorem Fr.below {B : Nat} {F : Nat → Prop} {w w' : World} (h : Fr F w w') (hF : ∀ k, k < B → k < w.heap.size ∧ ¬ F k) : Below B w w' :=
  ⟨h.os, h.tape, h.output, h.size, fun k hk => h.block k (hF k hk).1 (hF k hk).2⟩
theorem Fr.of_below {B : Nat} {w w' : World} (h : Below B w w') : Fr (fun k => B ≤ k) w w' :=
  ⟨h.os, h.tape, h.output, h.size, fun k _ hF => h.block k (by omega)⟩
theorem Fr.all {F : Nat → Prop} {w w' : World} (h : Below w.heap.size w w') : Fr F w w' :=
  ⟨h.os, h.tape, h.output, h.size, fun k hk _ => h.block k hk⟩

theorem cell_lt {w : World} {b off : Nat} {x : Value} (h : w.cell? ⟨b, off, none⟩ = some x) : b < w.heap.size := by
  unfold World.cell? at h
  by_cases hb : b < w.heap.size
  · exact hb
  · simp [Array.getElem?_eq_none (Nat.le_of_not_lt hb)] at h
theorem heap_lt {w : World} {b : Nat} {o : Obj} (h : w.heap[b]? = some o) : b < w.heap.size := lt_of_block h

/-! ### Reading -/
theorem Rd.len {w : World} {a : Option Addr} {n : Nat} {vs : List Value} (h : Rd w a n vs) : vs.length = n := h.1
theorem Rd.small {w : World} {a : Option Addr} {n : Nat} {vs : List Value} (h : Rd w a n vs) : n ≤ 16777216 := h.2.1
theorem Rd.nil {w : World} {a : Option Addr} {n : Nat} {vs : List Value} (h : Rd w a n vs) (ha : a = none) : n = 0 := by
  rcases Nat.eq_zero_or_pos n with h0 | h0
  · exact h0
  · obtain ⟨b, off, x, e, _⟩ := h.2.2 0 h0
    rw [ha] at e
    cases e
theorem Rd.u64 {w : World} {a : Option Addr} {n : Nat} {zs : List Int} (h : Rd w a n (u64s zs)) {i : Nat} (hi : i < n) :
    ∃ b off x, a = some ⟨b, off, none⟩ ∧ zs[i]? = some x ∧ w.cell? ⟨b, off + i, none⟩ = some (.int .u64 x) := by
  obtain ⟨b, off, x, e, hx, hc⟩ := h.2.2 i hi
  simp [u64s] at hx
  obtain ⟨y, hy, rfl⟩ := hx
  exact ⟨b, off, y, e, hy, hc⟩
theorem Rd.fr {F : Nat → Prop} {w w' : World} {a : Option Addr} {n : Nat} {vs : List Value} (h : Rd w a n vs) (hf : Fr F w w') (hF : ∀ b off, a = some ⟨b, off, none⟩ → ¬ F b) : Rd w' a n vs := by
  refine ⟨h.1, h.2.1, fun i hi => ?_⟩
  obtain ⟨b, off, x, e, hx, hc⟩ := h.2.2 i hi
  refine ⟨b, off, x, e, hx, ?_⟩
  rw [World.cell?_of_block (w := w) (hf.block b (cell_lt hc) (hF b off e))]
  exact hc
theorem Rd.below {w w' : World} {a : Option Addr} {n : Nat} {vs : List Value} (h : Rd w a n vs) (hf : Below w.heap.size w w') : Rd w' a n vs :=
  h.fr (F := fun _ => False) (Fr.all hf) (fun _ _ _ => id)
theorem Rd.drewN {w : World} {a : Option Addr} {n : Nat} {vs : List Value} (h : Rd w a n vs) (q : Nat) : Rd (w.drewN q) a n vs := h
/-- Its block, where it is not empty. -/
theorem Rd.lt {w : World} {a : Option Addr} {n : Nat} {vs : List Value} (h : Rd w a n vs) (hn : 0 < n) : ∃ b off, a = some ⟨b, off, none⟩ ∧ b < w.heap.size := by
  obtain ⟨b, off, x, e, _, hc⟩ := h.2.2 0 hn
  exact ⟨b, off, e, cell_lt hc⟩

theorem u64s_length (zs : List Int) : (u64s zs).length = zs.length := by simp [u64s]

/-! ### Owning -/
theorem Own.len {w : World} {B : Nat} {e : TypeId} {a : Option Addr} {n cap : Nat} {vs : List Value} (h : Own w B e a n cap vs) : vs.length = n := h.1
theorem Own.small {w : World} {B : Nat} {e : TypeId} {a : Option Addr} {n cap : Nat} {vs : List Value} (h : Own w B e a n cap vs) : n ≤ 16777216 := h.2.2.2.1
theorem Own.rd {w : World} {B : Nat} {e : TypeId} {a : Option Addr} {n cap : Nat} {vs : List Value} (h : Own w B e a n cap vs) : Rd w a n vs := by
  obtain ⟨hl, hnc, _, hs, h⟩ := h
  refine ⟨hl, hs, fun i hi => ?_⟩
  rcases h with ⟨_, hc⟩ | ⟨g, rest, ha, _, hg, _⟩
  · omega
  · refine ⟨g, 0, vs[i], ha, by simp, ?_⟩
    simp [World.cell?, hg]
    rw [List.getElem?_append_left (by omega)]
    simp
theorem Own.fr {F : Nat → Prop} {w w' : World} {B : Nat} {e : TypeId} {a : Option Addr} {n cap : Nat} {vs : List Value} (h : Own w B e a n cap vs) (hf : Fr F w w') (hF : ∀ b, a = some ⟨b, 0, none⟩ → ¬ F b) : Own w' B e a n cap vs := by
  obtain ⟨hl, hnc, hm, hs, h⟩ := h
  refine ⟨hl, hnc, hm, hs, ?_⟩
  rcases h with h | ⟨g, rest, ha, hB, hg, hc⟩
  · exact .inl h
  · exact .inr ⟨g, rest, ha, hB, by rw [hf.block g (heap_lt hg) (hF g ha)]; exact hg, hc⟩
theorem Own.below {w w' : World} {B : Nat} {e : TypeId} {a : Option Addr} {n cap : Nat} {vs : List Value} (h : Own w B e a n cap vs) (hf : Below w.heap.size w w') : Own w' B e a n cap vs :=
  h.fr (F := fun _ => False) (Fr.all hf) (fun _ _ => id)
theorem Own.mono {w : World} {B B' : Nat} {e : TypeId} {a : Option Addr} {n cap : Nat} {vs : List Value} (h : Own w B e a n cap vs) (hB : B' ≤ B) : Own w B' e a n cap vs := by
  obtain ⟨hl, hnc, hm, hs, h⟩ := h
  refine ⟨hl, hnc, hm, hs, ?_⟩
  rcases h with h | ⟨g, rest, ha, hB2, hg, hc⟩
  · exact .inl h
  · exact .inr ⟨g, rest, ha, by omega, hg, hc⟩
theorem Own.lt {w : World} {B : Nat} {e : TypeId} {a : Option Addr} {n cap : Nat} {vs : List Value} (h : Own w B e a n cap vs) {b off : Nat} (ha : a = some ⟨b, off, none⟩) : B ≤ b ∧ b < w.heap.size := by
  obtain ⟨hl, hnc, hm, hs, h⟩ := h
  rcases h with h | ⟨g, rest, ha', hB2, hg, hc⟩
  · rw [h.1] at ha; cases ha
  · rw [ha'] at ha
    simp at ha
    obtain ⟨rfl, _⟩ := ha
    exact ⟨hB2, heap_lt hg⟩
/-- The block, its cells: where there is an element. -/
theorem Own.at {w : World} {B : Nat} {e : TypeId} {a : Option Addr} {n cap : Nat} {vs : List Value} (h : Own w B e a n cap vs) {i : Nat} (hi : i < n) :
    ∃ g, a = some ⟨g, 0, none⟩ ∧ B ≤ g ∧ g < w.heap.size ∧ w.frozen? ⟨g, i, none⟩ = false ∧ (∃ x, vs[i]? = some x ∧ w.cell? ⟨g, i, none⟩ = some x) ∧
      (∀ u, Own (w.setCell ⟨g, i, none⟩ u) B e a n cap (vs.set i u)) := by
  obtain ⟨hl, hnc, hm, hs, h⟩ := h
  rcases h with ⟨_, hc⟩ | ⟨g, rest, ha, hB, hg, hc⟩
  · omega
  · refine ⟨g, ha, hB, heap_lt hg, by simp [World.frozen?, hg], ⟨vs[i], by simp, ?_⟩, fun u => ?_⟩
    · simp [World.cell?, hg]
      rw [List.getElem?_append_left (by omega)]
      simp
    · refine ⟨by simpa using hl, hnc, hm, hs, .inr ⟨g, rest, ha, hB, ?_, by simpa using hc⟩⟩
      simp only [World.setCell, Array.getElem?_modify, if_pos, hg, Option.map_some]
      simp [List.set_append, hl, hi]

theorem Own.of_row {w : World} {B : Nat} {e : TypeId} {v : Value} {n : Nat} {xs : List Value} (h : w.ownsRow B e 1 v n xs) (hn : n ≤ 16777216) : ∃ a cap, v = .slice a n cap ∧ Own w B e a n cap xs := by
  obtain ⟨hl, h⟩ := h
  simp only [Nat.mul_one] at hl h
  rcases h with ⟨rfl, rfl⟩ | ⟨g, cap, cur, rfl, hB, hg, hnc, hm, hs, ht⟩
  · exact ⟨none, 0, rfl, hl, Nat.le_refl _, Nat.zero_le _, Nat.zero_le _, .inl ⟨rfl, rfl⟩⟩
  · refine ⟨_, cap, rfl, hl, hnc, hm, hn, .inr ⟨g, cur.toList.drop n, rfl, hB, ?_, ?_⟩⟩
    · rw [← ht, List.take_append_drop]; simpa using hg
    · rw [← ht, List.take_append_drop]; simpa using hs
theorem Own.row {w : World} {B : Nat} {e : TypeId} {a : Option Addr} {n cap : Nat} {vs : List Value} (h : Own w B e a n cap vs) : w.ownsRow B e 1 (.slice a n cap) n vs := by
  obtain ⟨hl, hnc, hm, hs, h⟩ := h
  refine ⟨by simpa using hl, ?_⟩
  simp only [Nat.mul_one]
  rcases h with ⟨rfl, rfl⟩ | ⟨g, rest, rfl, hB, hg, hc⟩
  · obtain rfl : n = 0 := by omega
    exact .inl ⟨rfl, rfl⟩
  · exact .inr ⟨g, cap, _, rfl, hB, hg, hnc, hm, by simpa using hc, by simp [hl]⟩

/-! ### Small things -/
theorem ret_bool {a b : Bool} (h : a = b) : Ending.returned (.bool a) = .returned (.bool b) := by rw [h]
theorem ret_int {k : IntKind} {a b : Int} (h : a = b) : Ending.returned (.int k a) = .returned (.int k b) := by rw [h]
theorem take_succ_of {α : Type} {l : List α} {k : Nat} {x : α} (h : l[k]? = some x) : l.take (k + 1) = l.take k ++ [x] := by
  rw [List.take_add_one, h]; rfl
theorem one_u64s (zs : List Int) : ∀ u ∈ u64s zs, u.oneCell' = true := ints_oneCell _ zs
theorem set_u64s (l : List Int) (i : Nat) (x : Int) : (u64s l).set i (.int .u64 x) = u64s (l.set i x) := by simp [u64s, List.map_set]
theorem hd {p : Prop} (h : p) : Hid p := h
theorem bl {a b c : World} (h : Below a.heap.size a b) (k : Below b.heap.size b c) : Below a.heap.size a c := h.trans (k.mono h.size)
theorem Try.info31 : (Try.prog.info? 31).map (fun i => (i.zero, i.size, i.bytes)) = some (some (.int .u64 0), 1, 8) := by kernel_rfl
theorem Try.info65 : (Try.prog.info? 65).map (fun i => (i.zero, i.size, i.bytes)) = some (some (.agg #[.int .u64 0, .int .u64 0]), 2, 16) := by kernel_rfl

/-- A slice of pairs of numbers that is read. -/
def RdS (w : World) (a : Option Addr) (n : Nat) (ss : List (Int × Int)) : Prop :=
  ss.length = n ∧ n ≤ 16777216 ∧ ∀ i, i < n → ∃ b off p, a = some ⟨b, off, none⟩ ∧ ss[i]? = some p ∧ w.cell? ⟨b, off + i * 2, none⟩ = some (.int .u64 p.1) ∧ w.cell? ⟨b, off + i * 2 + 1, none⟩ = some (.int .u64 p.2)
theorem RdS.fr {F : Nat → Prop} {w w' : World} {a : Option Addr} {n : Nat} {ss : List (Int × Int)} (h : RdS w a n ss) (hf : Fr F w w') (hF : ∀ b off, a = some ⟨b, off, none⟩ → ¬ F b) : RdS w' a n ss := by
  refine ⟨h.1, h.2.1, fun i hi => ?_⟩
  obtain ⟨b, off, p, e, hx, hc, hc'⟩ := h.2.2 i hi
  refine ⟨b, off, p, e, hx, ?_, ?_⟩
  · rw [World.cell?_of_block (w := w) (hf.block b (cell_lt hc) (hF b off e))]
    exact hc
  · rw [World.cell?_of_block (w := w) (hf.block b (cell_lt hc) (hF b off e))]
    exact hc'
theorem RdS.below {w w' : World} {a : Option Addr} {n : Nat} {ss : List (Int × Int)} (h : RdS w a n ss) (hf : Below w.heap.size w w') : RdS w' a n ss :=
  h.fr (F := fun _ => False) (Fr.all hf) (fun _ _ _ => id)
theorem RdS.nil {w : World} {n : Nat} {ss : List (Int × Int)} (h : RdS w none n ss) : n = 0 := by
  rcases Nat.eq_zero_or_pos n with h0 | h0
  · exact h0
  · obtain ⟨b, off, x, e, _⟩ := h.2.2 0 h0
    cases e
end Go.Proofs.Qxb6600760a
