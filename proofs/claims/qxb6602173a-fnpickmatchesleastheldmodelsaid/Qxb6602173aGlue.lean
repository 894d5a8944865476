import Derived.Test.Qxb6602173aZz
import Derived.Test.Qxb6602173aPm
import Derived.Test.Qxb6602173aValidW
namespace Go.Proofs.Qxb6602173a
open Go.RowKit
set_option linter.unusedVariables false
set_option linter.unusedSimpArgs false

theorem hd {p : Prop} (h : p) : Hid p := h
theorem bl {a b c : World} (h : Below a.heap.size a b) (k : Below b.heap.size b c) : Below a.heap.size a c := h.trans (k.mono h.size)
theorem sumOk_t {n : Nat} (h : n ≤ 1048576) : sumOk n = true := (sumOk_yes h).symm
theorem sumOk_f {n : Nat} (h : ¬ n ≤ 1048576) : sumOk n = false := (sumOk_no (by omega)).symm
theorem Says.yes {b : Bool} {P : Pk} (h : Says b P) (v : Valid P) : b = true := h.2 v
theorem Says.no {b : Bool} {P : Pk} (h : Says b P) (v : ¬ Valid P) : b = false := by
  cases b with
  | false => rfl
  | true => exact absurd (h.1 rfl) v
theorem apt_lt {w1 w2 : World} {B1 B2 : Nat} {e1 e2 : TypeId} {a1 a2 : Option Addr} {n1 n2 c1 c2 : Nat} {v1 v2 : List Value} (h1 : Own w1 B1 e1 a1 n1 c1 v1) (h2 : Own w2 B2 e2 a2 n2 c2 v2) (hB : w1.heap.size ≤ B2) : Apt a1 a2 := by
  intro g e1 e2
  have := (h1.lt e1).2
  have := (h2.lt e2).1
  omega

/-- The Picker as ZZMake lays it. -/
theorem PM.build {w : World} {B pb gS : Nat} {P : Pk} {aC aH aO aA aT : Option Addr} {cC cH cO cA cT : Nat}
    (hbox : Bx w pb (.slice (some ⟨gS, 0, none⟩) P.st.length P.st.length) P.ver P.act (.slice aC P.sec.length cC) P.que (.slice aH P.held.length cH) (.slice aO P.ord.length cO) (.slice aA P.at_.length cA) (.slice aT P.starts.length cT))
    (hpb : B ≤ pb) (hs : w.heap[gS]? = some (.cells (u8s P.st).toArray 51 (0, 0))) (hgs : B ≤ gS) (hn : P.st.length ≤ 16777216)
    (hC : Own w B 4 aC P.sec.length cC (bools P.sec)) (hH : Own w B 3 aH P.held.length cH (ints P.held)) (hO : Own w B 3 aO P.ord.length cO (ints P.ord)) (hA : Own w B 3 aA P.at_.length cA (ints P.at_)) (hT : Own w B 3 aT P.starts.length cT (ints P.starts))
    (ho : Apt aH aO) (ha : Apt aH aA) (ht : Apt aH aT) (oa : Apt aO aA) (ot : Apt aO aT) (at_ : Apt aA aT) :
    PM w B pb ⟨some ⟨gS, 0, none⟩, aC, aH, aO, aA, aT, P.st.length, cC, cH, cO, cA, cT⟩ P :=
  ⟨hbox, hpb, Own.fresh hs hgs (u8s_length _) hn, hC, hH, hO, hA, hT, ho, ha, ht, oa, ot, at_⟩

/-- pkValid's answer, known. -/
theorem valid_yes (P : Pk) (aS aC aH aO aA aT : Option Addr) (cS cC cH cO cA cT : Nat) (w : World) (hS : Rd w aS P.st.length (u8s P.st)) (hC : Rd w aC P.sec.length (bools P.sec)) (hH : Rd w aH P.held.length (ints P.held))
    (hO : Rd w aO P.ord.length (ints P.ord)) (hA : Rd w aA P.at_.length (ints P.at_)) (hT : Rd w aT P.starts.length (ints P.starts)) (hv : Valid P) :
    Calls Try.prog 11 #[.slice aS P.st.length cS, .int .i64 P.ver, .int .i64 P.act, .slice aC P.sec.length cC, .slice aH P.held.length cH, .slice aO P.ord.length cO, .slice aA P.at_.length cA, .slice aT P.starts.length cT] w fun e w' =>
      e = .returned (.bool true) ∧ Below w.heap.size w w' :=
  (valid_any P aS aC aH aO aA aT P.st.length cS P.sec.length cC P.held.length cH P.ord.length cO P.at_.length cA P.starts.length cT w hS hC hH hO hA hT).mono fun e w' ⟨b, he, hs, hb⟩ => ⟨by rw [he, hs.yes hv], hb⟩
theorem valid_no (P : Pk) (aS aC aH aO aA aT : Option Addr) (cS cC cH cO cA cT : Nat) (w : World) (hS : Rd w aS P.st.length (u8s P.st)) (hC : Rd w aC P.sec.length (bools P.sec)) (hH : Rd w aH P.held.length (ints P.held))
    (hO : Rd w aO P.ord.length (ints P.ord)) (hA : Rd w aA P.at_.length (ints P.at_)) (hT : Rd w aT P.starts.length (ints P.starts)) (hv : ¬ Valid P) :
    Calls Try.prog 11 #[.slice aS P.st.length cS, .int .i64 P.ver, .int .i64 P.act, .slice aC P.sec.length cC, .slice aH P.held.length cH, .slice aO P.ord.length cO, .slice aA P.at_.length cA, .slice aT P.starts.length cT] w fun e w' =>
      e = .returned (.bool false) ∧ Below w.heap.size w w' :=
  (valid_any P aS aC aH aO aA aT P.st.length cS P.sec.length cC P.held.length cH P.ord.length cO P.at_.length cA P.starts.length cT w hS hC hH hO hA hT).mono fun e w' ⟨b, he, hs, hb⟩ => ⟨by rw [he, hs.no hv], hb⟩
theorem src_cells2 {w w1 : World} {a : Option Addr} {n : Nat} {vs : List Value} (h : Rd w a n vs) (hb : Below w.heap.size w w1) (d : Option Addr) :
    0 < vs.length → d = d ∧ ∃ ad', a = some ad' ∧ ∀ j v, vs[j]? = some v → w1.cell? (ad'.add j) = some v := by
  intro h0
  obtain ⟨b, off, e, _⟩ := h.lt (by rw [← h.1]; exact h0)
  obtain ⟨_, ad', e2, h2⟩ := src_cells h hb e d h0
  cases e2
  exact ⟨rfl, _, e, h2⟩
theorem splice_more (l : List Value) (z : Value) : splice (List.replicate (l.length + 1) z) 0 l = l ++ [z] := by
  simp [splice]
theorem more_cell {w : World} {g : Nat} {fet : List Int} (h : w.heap[g]? = some (.cells (splice (List.replicate (fet.length + 1) (.int .i64 0)) 0 (ints fet)).toArray 3 (0, 0))) :
    w.cell? ⟨g, fet.length, none⟩ = some (.int .i64 0) ∧ w.frozen? ⟨g, fet.length, none⟩ = false := by
  have e := splice_more (ints fet) (.int .i64 0)
  rw [ints_length] at e
  rw [e] at h
  constructor
  · simp [World.cell?, h, ints]
  · simp [World.frozen?, h]
theorem more_full {w : World} {g : Nat} {fet : List Int} (x : Int) (h : w.heap[g]? = some (.cells (splice (List.replicate (fet.length + 1) (.int .i64 0)) 0 (ints fet)).toArray 3 (0, 0))) :
    (w.setCell ⟨g, fet.length, none⟩ (.int .i64 x)).heap[g]? = some (.cells (ints (fet ++ [x])).toArray 3 (0, 0)) := by
  have e := splice_more (ints fet) (.int .i64 0)
  rw [ints_length] at e
  rw [e] at h
  rw [heap_setCell_at h]
  simp [ints]
end Go.Proofs.Qxb6602173a
