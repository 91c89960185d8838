import Derived.WalkKit
import Derived.Handy
import Derived.Deep.QuietTactic
import Derived.BigQuiet
namespace Go.Proofs.Qxb6608862a
open Go.RowKit

/-- Block g is a block of cells, nothing of it frozen, at least s cells long. -/
def Blk (w : World) (g s : Nat) : Prop := ∃ cur e, w.heap[g]? = some (.cells cur e (0, 0)) ∧ s ≤ cur.size

theorem Blk.lt {w : World} {g s : Nat} (h : Blk w g s) : g < w.heap.size := by
  obtain ⟨cur, e, h, _⟩ := h
  exact (Array.getElem?_eq_some_iff.1 h).1
theorem Blk.frozen {w : World} {g s : Nat} (h : Blk w g s) (j : Nat) : w.frozen? ⟨g, j, none⟩ = false := by
  obtain ⟨cur, e, h, _⟩ := h
  simp [World.frozen?, h]
theorem Blk.cell {w : World} {g s : Nat} (h : Blk w g s) {j : Nat} (hj : j < s) : ∃ v, w.cell? ⟨g, j, none⟩ = some v := by
  obtain ⟨cur, e, h, hs⟩ := h
  exact ⟨cur[j]'(by omega), by simp [World.cell?, h]⟩
theorem Blk.of_block {w w' : World} {g s : Nat} (h : Blk w g s) (e : w'.heap[g]? = w.heap[g]?) : Blk w' g s := by
  obtain ⟨cur, t, h, hs⟩ := h
  exact ⟨cur, t, e.trans h, hs⟩
theorem Blk.setCell {w : World} {g s : Nat} (h : Blk w g s) (a : Addr) (v : Value) : Blk (w.setCell a v) g s := by
  by_cases hg : g = a.block
  · obtain ⟨cur, t, h, hs⟩ := h
    subst hg
    refine ⟨if a.spot.isSome then cur else cur.setIfInBounds a.off v, t, ?_, ?_⟩
    · simp only [World.setCell, Array.getElem?_modify, h]
      simp
    · split <;> simp [hs]
  · exact h.of_block (Below.heap_setCell _ _ _ _ hg)
theorem Blk.alloc {w : World} {g s : Nat} (h : Blk w g s) (o : Obj) : Blk (w.alloc o) g s := h.of_block (Below.heap_alloc _ _ _ h.lt)
theorem Blk.below {w w' : World} {B g s : Nat} (h : Blk w g s) (hb : Below B w w') (hg : g < B) : Blk w' g s := h.of_block (hb.block g hg)
theorem Blk.made (w : World) (cur : Array Value) (e : TypeId) (s : Nat) (h : s ≤ cur.size) : Blk (w.alloc (.cells cur e)) w.heap.size s :=
  ⟨cur, e, (MapKept.heap_alloc w _).1, h⟩

theorem lt_of_cell {w : World} {b o : Nat} {v : Value} (hc : w.cell? ⟨b, o, none⟩ = some v) : b < w.heap.size := by
  rcases Nat.lt_or_ge b w.heap.size with h | h
  · exact h
  · simp [World.cell?, h] at hc
theorem cell_set_same {w : World} {g j s : Nat} (h : Blk w g s) (hj : j < s) (v : Value) : (w.setCell ⟨g, j, none⟩ v).cell? ⟨g, j, none⟩ = some v := by
  obtain ⟨u, hu⟩ := h.cell hj
  exact World.cell?_setCell_same _ _ _ hu
theorem cell_set_off {w : World} {g i j : Nat} (hij : i ≠ j) (v : Value) : (w.setCell ⟨g, j, none⟩ v).cell? ⟨g, i, none⟩ = w.cell? ⟨g, i, none⟩ :=
  World.cell?_setCell_other _ _ _ _ (fun h => hij (by injection h with _ h2; exact h2.symm))
theorem cell_set_block {w : World} {a : Addr} {g i : Nat} (hg : g ≠ a.block) (v : Value) : (w.setCell a v).cell? ⟨g, i, none⟩ = w.cell? ⟨g, i, none⟩ :=
  World.cell?_of_block (w := w) (a := ⟨g, i, none⟩) (Below.heap_setCell _ _ _ _ hg)
theorem cell_alloc' {w : World} {b o : Nat} {v : Value} (h : w.cell? ⟨b, o, none⟩ = some v) (x : Obj) : (w.alloc x).cell? ⟨b, o, none⟩ = some v :=
  (World.cell?_of_block (w := w) (a := ⟨b, o, none⟩) (Below.heap_alloc _ _ _ (lt_of_cell h))).trans h
theorem later {a b c : World} (h : Below a.heap.size a b) (k : Below b.heap.size b c) : Below a.heap.size a c := h.trans (k.mono h.size)
theorem cell_later {w w' : World} {b o : Nat} {v : Value} (h : w.cell? ⟨b, o, none⟩ = some v) (hb : Below w.heap.size w w') : w'.cell? ⟨b, o, none⟩ = some v :=
  (hb.cell (p := ⟨b, o, none⟩) (lt_of_cell h)).trans h
theorem below_draws {B : Nat} {a w : World} (h : Below B a w) (n : Nat) : Below B a (w.drewN n) := ⟨h.os, h.tape, h.output, h.size, h.block⟩

/-- A slice of n strings: element i is s i. -/
def Strs (w : World) (a : Option Addr) (n : Nat) (s : Nat → ByteArray) : Prop :=
  n = 0 ∨ ∃ b o, a = some ⟨b, o, none⟩ ∧ ∀ i, i < n → w.cell? ⟨b, o + i, none⟩ = some (.string (s i))
theorem Strs.later {w w' : World} {a : Option Addr} {n : Nat} {s : Nat → ByteArray} (h : Strs w a n s) (hb : Below w.heap.size w w') : Strs w' a n s := by
  rcases h with h | ⟨b, o, ha, hc⟩
  · exact .inl h
  · exact .inr ⟨b, o, ha, fun i hi => cell_later (hc i hi) hb⟩

/-- A slice of n pointers to components: element i points to block q i, whose Name is s i. -/
def Cmps (w : World) (a : Option Addr) (n : Nat) (q : Nat → Nat) (s : Nat → ByteArray) : Prop :=
  n = 0 ∨ ∃ b o, a = some ⟨b, o, none⟩ ∧ ∀ i, i < n → w.cell? ⟨b, o + i, none⟩ = some (.pointer (some ⟨q i, 0, none⟩)) ∧ w.cell? ⟨q i, 0, none⟩ = some (.string (s i))
theorem Cmps.later {w w' : World} {a : Option Addr} {n : Nat} {q : Nat → Nat} {s : Nat → ByteArray} (h : Cmps w a n q s) (hb : Below w.heap.size w w') : Cmps w' a n q s := by
  rcases h with h | ⟨b, o, ha, hc⟩
  · exact .inl h
  · exact .inr ⟨b, o, ha, fun i hi => ⟨cell_later (hc i hi).1 hb, cell_later (hc i hi).2 hb⟩⟩

/-- Go's '==' on strings, as the walk writes it. -/
def eqS (a b : ByteArray) : Bool := a.toList == b.toList

/-- The first index that answers yes, or none. -/
theorem first_or_none (n : Nat) (t : Nat → Bool) : (∃ k, k < n ∧ t k = true ∧ ∀ i, i < k → t i = false) ∨ ∀ i, i < n → t i = false := by
  induction n with
  | zero => exact .inr fun i hi => by omega
  | succ n ih =>
    rcases ih with ⟨k, hk, h1, h2⟩ | h
    · exact .inl ⟨k, by omega, h1, h2⟩
    · cases e : t n
      · refine .inr fun i hi => ?_
        rcases Nat.lt_succ_iff_lt_or_eq.1 hi with h' | rfl
        · exact h i h'
        · exact e
      · exact .inl ⟨n, by omega, e, h⟩
end Go.Proofs.Qxb6608862a
