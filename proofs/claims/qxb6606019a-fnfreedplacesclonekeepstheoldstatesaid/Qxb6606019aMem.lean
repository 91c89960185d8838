import Derived.WalkKit
import Derived.Handy
namespace Go.Proofs.Qxb6606019a
open Go.RowKit

/-- Block g is a block of cells, nothing of it frozen, at least s cells long. -/
def Blk (w : World) (g s : Nat) : Prop := ∃ cur e, w.heap[g]? = some (.cells cur e (0, 0)) ∧ s ≤ cur.size

theorem Blk.lt {w : World} {g s : Nat} (h : Blk w g s) : g < w.heap.size := by
  obtain ⟨cur, e, h, _⟩ := h
  exact (Array.getElem?_eq_some_iff.1 h).1
theorem Blk.frozen {w : World} {g s : Nat} (h : Blk w g s) (j : Nat) : w.frozen? ⟨g, j, none⟩ = false := by
  obtain ⟨cur, e, h, _⟩ := h
  simp [World.frozen?, h]
theorem Blk.cell {w : World} {g s : Nat} (h : Blk w g s) {j : Nat} (hj : j < s) : ∃ v, w.cell? ⟨g, j, none⟩ = some v := by
  obtain ⟨cur, e, h, hs⟩ := h
  exact ⟨cur[j]'(by omega), by simp [World.cell?, h]⟩
theorem Blk.of_block {w w' : World} {g s : Nat} (h : Blk w g s) (e : w'.heap[g]? = w.heap[g]?) : Blk w' g s := by
  obtain ⟨cur, t, h, hs⟩ := h
  exact ⟨cur, t, e.trans h, hs⟩
theorem Blk.setCell {w : World} {g s : Nat} (h : Blk w g s) (a : Addr) (v : Value) : Blk (w.setCell a v) g s := by
  by_cases hg : g = a.block
  · obtain ⟨cur, t, h, hs⟩ := h
    subst hg
    refine ⟨if a.spot.isSome then cur else cur.setIfInBounds a.off v, t, ?_, ?_⟩
    · simp only [World.setCell, Array.getElem?_modify, h]
      simp
    · split <;> simp [hs]
  · exact h.of_block (Below.heap_setCell _ _ _ _ hg)
theorem Blk.alloc {w : World} {g s : Nat} (h : Blk w g s) (o : Obj) : Blk (w.alloc o) g s := h.of_block (Below.heap_alloc _ _ _ h.lt)
theorem Blk.below {w w' : World} {B g s : Nat} (h : Blk w g s) (hb : Below B w w') (hg : g < B) : Blk w' g s := h.of_block (hb.block g hg)
theorem Blk.mono {w : World} {g s s' : Nat} (h : Blk w g s) (hs : s' ≤ s) : Blk w g s' := by
  obtain ⟨cur, t, h, k⟩ := h
  exact ⟨cur, t, h, by omega⟩
theorem Blk.made (w : World) (cur : Array Value) (e : TypeId) (s : Nat) (h : s ≤ cur.size) : Blk (w.alloc (.cells cur e)) w.heap.size s :=
  ⟨cur, e, (MapKept.heap_alloc w _).1, h⟩

/-- From w to w' no block has turned but such as S holds; new blocks may lie behind. -/
structure Kept (S : Nat → Prop) (w w' : World) : Prop where
  os : w'.os = w.os
  tape : w'.tape = w.tape
  output : w'.output = w.output
  size : w.heap.size ≤ w'.heap.size
  block : ∀ k, k < w.heap.size → ¬ S k → w'.heap[k]? = w.heap[k]?

theorem Kept.refl (S : Nat → Prop) (w : World) : Kept S w w := ⟨rfl, rfl, rfl, Nat.le_refl _, fun _ _ _ => rfl⟩
theorem Kept.trans {S : Nat → Prop} {a b c : World} (h : Kept S a b) (k : Kept S b c) : Kept S a c :=
  ⟨k.os.trans h.os, k.tape.trans h.tape, k.output.trans h.output, Nat.le_trans h.size k.size, fun i hi hs => (k.block i (Nat.lt_of_lt_of_le hi h.size) hs).trans (h.block i hi hs)⟩
theorem Kept.mono {S T : Nat → Prop} {w w' : World} (h : Kept S w w') (hs : ∀ k, S k → T k) : Kept T w w' :=
  ⟨h.os, h.tape, h.output, h.size, fun k hk hn => h.block k hk (fun x => hn (hs k x))⟩
theorem Kept.of_below {S : Nat → Prop} {w w' : World} (h : Below w.heap.size w w') : Kept S w w' :=
  ⟨h.os, h.tape, h.output, h.size, fun k hk _ => h.block k hk⟩
theorem Kept.below {S : Nat → Prop} {w w' : World} {B : Nat} (h : Kept S w w') (hB : B ≤ w.heap.size) (hs : ∀ k, S k → B ≤ k) : Below B w w' :=
  ⟨h.os, h.tape, h.output, h.size, fun k hk => h.block k (by omega) (fun x => by have := hs k x; omega)⟩
theorem Kept.drew {S : Nat → Prop} {a w : World} (h : Kept S a w) : Kept S a w.drew := ⟨h.os, h.tape, h.output, h.size, h.block⟩
theorem Kept.alloc {S : Nat → Prop} {a w : World} (h : Kept S a w) (o : Obj) : Kept S a (w.alloc o) :=
  h.trans ⟨rfl, rfl, rfl, by simp, fun k hk _ => Below.heap_alloc _ _ _ hk⟩
theorem Kept.setCell {S : Nat → Prop} {a w : World} (h : Kept S a w) {p : Addr} (hp : S p.block) (u : Value) : Kept S a (w.setCell p u) :=
  h.trans ⟨rfl, rfl, rfl, by simp [World.setCell], fun k _ hn => Below.heap_setCell _ _ _ _ (fun e => hn (e ▸ hp))⟩
theorem Kept.cell {S : Nat → Prop} {w w' : World} (h : Kept S w w') {b o : Nat} {v : Value} (hc : w.cell? ⟨b, o, none⟩ = some v) (hs : ¬ S b) : w'.cell? ⟨b, o, none⟩ = some v := by
  have hb : b < w.heap.size := by
    rcases Nat.lt_or_ge b w.heap.size with h | h
    · exact h
    · simp [World.cell?, h] at hc
  exact (World.cell?_of_block (w := w) (h.block b hb hs)).trans hc
theorem Kept.blk {S : Nat → Prop} {w w' : World} (h : Kept S w w') {g s : Nat} (hc : Blk w g s) (hs : ¬ S g) : Blk w' g s := hc.of_block (h.block g hc.lt hs)

/-- A slice of n numbers of kind k, element i is f i; its array lies below block number B. -/
def Ints (B : Nat) (w : World) (a : Option Addr) (k : IntKind) (n : Nat) (f : Nat → Int) : Prop :=
  n = 0 ∨ ∃ b o, a = some ⟨b, o, none⟩ ∧ b < B ∧ ∀ i, i < n → w.cell? ⟨b, o + i, none⟩ = some (.int k (f i))
/-- A slice of n pairs of int32. -/
def Prs (B : Nat) (w : World) (a : Option Addr) (n : Nat) (f g : Nat → Int) : Prop :=
  n = 0 ∨ ∃ b o, a = some ⟨b, o, none⟩ ∧ b < B ∧ ∀ i, i < n → w.cell? ⟨b, o + i * 2, none⟩ = some (.int .i32 (f i)) ∧ w.cell? ⟨b, o + i * 2 + 1, none⟩ = some (.int .i32 (g i))

theorem Ints.below {B : Nat} {w w' : World} {a : Option Addr} {k : IntKind} {n : Nat} {f : Nat → Int} (h : Ints B w a k n f) (hb : Below B w w') : Ints B w' a k n f := by
  rcases h with h | ⟨b, o, ha, hB, hc⟩
  · exact .inl h
  · exact .inr ⟨b, o, ha, hB, fun i hi => (hb.cell (p := ⟨b, o + i, none⟩) hB).trans (hc i hi)⟩
theorem Prs.below {B : Nat} {w w' : World} {a : Option Addr} {n : Nat} {f g : Nat → Int} (h : Prs B w a n f g) (hb : Below B w w') : Prs B w' a n f g := by
  rcases h with h | ⟨b, o, ha, hB, hc⟩
  · exact .inl h
  · exact .inr ⟨b, o, ha, hB, fun i hi => ⟨(hb.cell (p := ⟨b, o + i * 2, none⟩) hB).trans (hc i hi).1, (hb.cell (p := ⟨b, o + i * 2 + 1, none⟩) hB).trans (hc i hi).2⟩⟩
theorem Ints.mono {B B' : Nat} {w : World} {a : Option Addr} {k : IntKind} {n : Nat} {f : Nat → Int} (h : Ints B w a k n f) (hb : B ≤ B') : Ints B' w a k n f := by
  rcases h with h | ⟨b, o, ha, hB, hc⟩
  · exact .inl h
  · exact .inr ⟨b, o, ha, by omega, hc⟩
theorem Prs.mono {B B' : Nat} {w : World} {a : Option Addr} {n : Nat} {f g : Nat → Int} (h : Prs B w a n f g) (hb : B ≤ B') : Prs B' w a n f g := by
  rcases h with h | ⟨b, o, ha, hB, hc⟩
  · exact .inl h
  · exact .inr ⟨b, o, ha, by omega, hc⟩
/-- The first s cells of block g are as h says. -/
def Flat (w : World) (g s : Nat) (h : Nat → Value) : Prop := ∀ x, x < s → w.cell? ⟨g, x, none⟩ = some (h x)

theorem cell_set_same {w : World} {g j s : Nat} (h : Blk w g s) (hj : j < s) (v : Value) : (w.setCell ⟨g, j, none⟩ v).cell? ⟨g, j, none⟩ = some v := by
  obtain ⟨u, hu⟩ := h.cell hj
  exact World.cell?_setCell_same _ _ _ hu
theorem cell_set_off {w : World} {g i j : Nat} (hij : i ≠ j) (v : Value) : (w.setCell ⟨g, j, none⟩ v).cell? ⟨g, i, none⟩ = w.cell? ⟨g, i, none⟩ :=
  World.cell?_setCell_other _ _ _ _ (fun h => hij (by injection h with _ h2; exact h2.symm))
theorem cell_set_block {w : World} {a : Addr} {g i : Nat} (hg : g ≠ a.block) (v : Value) : (w.setCell a v).cell? ⟨g, i, none⟩ = w.cell? ⟨g, i, none⟩ :=
  World.cell?_of_block (w := w) (a := ⟨g, i, none⟩) (Below.heap_setCell _ _ _ _ hg)
theorem Flat.put {w : World} {g k s : Nat} {h : Nat → Value} {v : Value} (hc : Flat w g k h) (hb : Blk w g s) (hk : k < s) (hv : v = h k) : Flat (w.setCell ⟨g, k, none⟩ v) g (k + 1) h := by
  subst hv
  intro i hi
  by_cases e : i = k
  · subst e; exact cell_set_same hb hk _
  · rw [cell_set_off e]; exact hc i (by omega)
theorem Flat.setOther {w : World} {g k : Nat} {h : Nat → Value} (hc : Flat w g k h) {a : Addr} (hg : g ≠ a.block) (v : Value) : Flat (w.setCell a v) g k h :=
  fun i hi => (cell_set_block hg v).trans (hc i hi)
theorem lt_of_cell {w : World} {b o : Nat} {v : Value} (hc : w.cell? ⟨b, o, none⟩ = some v) : b < w.heap.size := by
  rcases Nat.lt_or_ge b w.heap.size with h | h
  · exact h
  · simp [World.cell?, h] at hc
theorem Flat.alloc {w : World} {g k : Nat} {h : Nat → Value} (hc : Flat w g k h) (o : Obj) : Flat (w.alloc o) g k h :=
  fun i hi => (World.cell?_of_block (w := w) (a := ⟨g, i, none⟩) (Below.heap_alloc _ _ _ (lt_of_cell (hc i hi)))).trans (hc i hi)
theorem Flat.kept {S : Nat → Prop} {w w' : World} {g k : Nat} {h : Nat → Value} (hc : Flat w g k h) (hk : Kept S w w') (hs : ¬ S g) : Flat w' g k h :=
  fun i hi => hk.cell (hc i hi) hs
theorem Flat.below {B : Nat} {w w' : World} {g k : Nat} {h : Nat → Value} (hc : Flat w g k h) (hk : Below B w w') (hs : g < B) : Flat w' g k h :=
  fun i hi => (hk.cell (p := ⟨g, i, none⟩) hs).trans (hc i hi)

/-- The cells of a row of pairs (tallies, [2]int32), of entries, of handovers. -/
def hT (f g : Nat → Int) (x : Nat) : Value := if x % 2 = 0 then .int .i32 (f (x / 2)) else .int .i32 (g (x / 2))
def hE (f g h : Nat → Int) (x : Nat) : Value := if x % 3 = 0 then .int .i64 (f (x / 3)) else if x % 3 = 1 then .int .i32 (g (x / 3)) else .int .i8 (h (x / 3))
def hC (f g h : Nat → Int) (x : Nat) : Value :=
  if x % 5 = 0 then .int .u64 (f (x / 5) % 1000000000) else if x % 5 = 1 then .int .i64 (f (x / 5) / 1000000000) else if x % 5 = 2 then .pointer none else if x % 5 = 3 then .int .i64 (g (x / 5)) else .int .i64 (h (x / 5))

theorem hT0 (f g : Nat → Int) (k : Nat) : hT f g (k * 2) = .int .i32 (f k) := by
  unfold hT; rw [if_pos (by omega), show k * 2 / 2 = k by omega]
theorem hT1 (f g : Nat → Int) (k : Nat) : hT f g (k * 2 + 1) = .int .i32 (g k) := by
  unfold hT; rw [if_neg (by omega), show (k * 2 + 1) / 2 = k by omega]
theorem hE0 (f g h : Nat → Int) (k : Nat) : hE f g h (k * 3) = .int .i64 (f k) := by
  unfold hE; rw [if_pos (by omega), show k * 3 / 3 = k by omega]
theorem hE1 (f g h : Nat → Int) (k : Nat) : hE f g h (k * 3 + 1) = .int .i32 (g k) := by
  unfold hE; rw [if_neg (by omega), if_pos (by omega), show (k * 3 + 1) / 3 = k by omega]
theorem hE2 (f g h : Nat → Int) (k : Nat) : hE f g h (k * 3 + 2) = .int .i8 (h k) := by
  unfold hE; rw [if_neg (by omega), if_neg (by omega), show (k * 3 + 2) / 3 = k by omega]
theorem hC0 (f g h : Nat → Int) (k : Nat) : hC f g h (k * 5) = .int .u64 (f k % 1000000000) := by
  unfold hC; rw [if_pos (by omega), show k * 5 / 5 = k by omega]
theorem hC1 (f g h : Nat → Int) (k : Nat) : hC f g h (k * 5 + 1) = .int .i64 (f k / 1000000000) := by
  unfold hC; rw [if_neg (by omega), if_pos (by omega), show (k * 5 + 1) / 5 = k by omega]
theorem hC2 (f g h : Nat → Int) (k : Nat) : hC f g h (k * 5 + 2) = .pointer none := by
  unfold hC; rw [if_neg (by omega), if_neg (by omega), if_pos (by omega)]
theorem hC3 (f g h : Nat → Int) (k : Nat) : hC f g h (k * 5 + 3) = .int .i64 (g k) := by
  unfold hC; rw [if_neg (by omega), if_neg (by omega), if_neg (by omega), if_pos (by omega), show (k * 5 + 3) / 5 = k by omega]
theorem hC4 (f g h : Nat → Int) (k : Nat) : hC f g h (k * 5 + 4) = .int .i64 (h k) := by
  unfold hC; rw [if_neg (by omega), if_neg (by omega), if_neg (by omega), if_neg (by omega), show (k * 5 + 4) / 5 = k by omega]

theorem Flat.getT {w : World} {b n : Nat} {f g : Nat → Int} (h : Flat w b (n * 2) (hT f g)) {k : Nat} (hk : k < n) :
    w.cell? ⟨b, k * 2, none⟩ = some (.int .i32 (f k)) ∧ w.cell? ⟨b, k * 2 + 1, none⟩ = some (.int .i32 (g k)) :=
  ⟨by rw [h _ (by omega), hT0], by rw [h _ (by omega), hT1]⟩
theorem Flat.getE {w : World} {b n : Nat} {f g i : Nat → Int} (h : Flat w b (n * 3) (hE f g i)) {k : Nat} (hk : k < n) :
    w.cell? ⟨b, k * 3, none⟩ = some (.int .i64 (f k)) ∧ w.cell? ⟨b, k * 3 + 1, none⟩ = some (.int .i32 (g k)) ∧ w.cell? ⟨b, k * 3 + 2, none⟩ = some (.int .i8 (i k)) :=
  ⟨by rw [h _ (by omega), hE0], by rw [h _ (by omega), hE1], by rw [h _ (by omega), hE2]⟩
theorem Flat.getC {w : World} {b n : Nat} {f g i : Nat → Int} (h : Flat w b (n * 5) (hC f g i)) {k : Nat} (hk : k < n) :
    w.cell? ⟨b, k * 5, none⟩ = some (.int .u64 (f k % 1000000000)) ∧ w.cell? ⟨b, k * 5 + 1, none⟩ = some (.int .i64 (f k / 1000000000)) ∧ w.cell? ⟨b, k * 5 + 2, none⟩ = some (.pointer none) ∧
      w.cell? ⟨b, k * 5 + 3, none⟩ = some (.int .i64 (g k)) ∧ w.cell? ⟨b, k * 5 + 4, none⟩ = some (.int .i64 (i k)) :=
  ⟨by rw [h _ (by omega), hC0], by rw [h _ (by omega), hC1], by rw [h _ (by omega), hC2], by rw [h _ (by omega), hC3], by rw [h _ (by omega), hC4]⟩

theorem Flat.putT {w : World} {b k n : Nat} {f g : Nat → Int} (h : Flat w b (k * 2) (hT f g)) (hb : Blk w b (n * 2)) (hk : k < n) :
    Flat ((w.setCell ⟨b, k * 2, none⟩ (.int .i32 (f k))).setCell ⟨b, k * 2 + 1, none⟩ (.int .i32 (g k))) b ((k + 1) * 2) (hT f g) := by
  have h1 := h.put hb (by omega) (hT0 f g k).symm
  have h2 := h1.put (hb.setCell _ _) (by omega) (hT1 f g k).symm
  rw [show (k + 1) * 2 = k * 2 + 1 + 1 by omega]
  exact h2
theorem Flat.putE {w : World} {b k n : Nat} {f g i : Nat → Int} (h : Flat w b (k * 3) (hE f g i)) (hb : Blk w b (n * 3)) (hk : k < n) :
    Flat (((w.setCell ⟨b, k * 3, none⟩ (.int .i64 (f k))).setCell ⟨b, k * 3 + 1, none⟩ (.int .i32 (g k))).setCell ⟨b, k * 3 + 2, none⟩ (.int .i8 (i k))) b ((k + 1) * 3) (hE f g i) := by
  have h1 := h.put hb (by omega) (hE0 f g i k).symm
  have h2 := h1.put (hb.setCell _ _) (by omega) (hE1 f g i k).symm
  have h3 := h2.put ((hb.setCell _ _).setCell _ _) (by omega) (hE2 f g i k).symm
  rw [show (k + 1) * 3 = k * 3 + 1 + 1 + 1 by omega]
  exact h3
theorem Flat.putC {w : World} {b k n : Nat} {f g i : Nat → Int} (h : Flat w b (k * 5) (hC f g i)) (hb : Blk w b (n * 5)) (hk : k < n) :
    Flat (((((w.setCell ⟨b, k * 5, none⟩ (.int .u64 (f k % 1000000000))).setCell ⟨b, k * 5 + 1, none⟩ (.int .i64 (f k / 1000000000))).setCell ⟨b, k * 5 + 2, none⟩ (.pointer none)).setCell ⟨b, k * 5 + 3, none⟩ (.int .i64 (g k))).setCell ⟨b, k * 5 + 4, none⟩ (.int .i64 (i k))) b ((k + 1) * 5) (hC f g i) := by
  have h1 := h.put hb (by omega) (hC0 f g i k).symm
  have h2 := h1.put (hb.setCell _ _) (by omega) (hC1 f g i k).symm
  have h3 := h2.put ((hb.setCell _ _).setCell _ _) (by omega) (hC2 f g i k).symm
  have h4 := h3.put (((hb.setCell _ _).setCell _ _).setCell _ _) (by omega) (hC3 f g i k).symm
  have h5 := h4.put ((((hb.setCell _ _).setCell _ _).setCell _ _).setCell _ _) (by omega) (hC4 f g i k).symm
  rw [show (k + 1) * 5 = k * 5 + 1 + 1 + 1 + 1 + 1 by omega]
  exact h5

theorem Flat.drew {w : World} {g k : Nat} {h : Nat → Value} (hc : Flat w g k h) : Flat w.drew g k h := hc
theorem Blk.drew {w : World} {g s : Nat} (h : Blk w g s) : Blk w.drew g s := h

theorem cell_alloc' {w : World} {b o : Nat} {v : Value} (h : w.cell? ⟨b, o, none⟩ = some v) (x : Obj) : (w.alloc x).cell? ⟨b, o, none⟩ = some v :=
  (World.cell?_of_block (w := w) (a := ⟨b, o, none⟩) (Below.heap_alloc _ _ _ (lt_of_cell h))).trans h
theorem cell_drew' {w : World} {b o : Nat} {v : Value} (h : w.cell? ⟨b, o, none⟩ = some v) : w.drew.cell? ⟨b, o, none⟩ = some v := h
theorem cell_set' {w : World} {b o g o' : Nat} {v u : Value} (hg : b ≠ g) (h : w.cell? ⟨b, o, none⟩ = some v) : (w.setCell ⟨g, o', none⟩ u).cell? ⟨b, o, none⟩ = some v :=
  (cell_set_block (a := ⟨g, o', none⟩) hg u).trans h

end Go.Proofs.Qxb6606019a
