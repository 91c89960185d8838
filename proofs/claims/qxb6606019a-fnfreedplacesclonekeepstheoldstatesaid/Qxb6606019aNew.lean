import Derived.Test.Qxb6606019aCopy2
import Derived.Test.Qxb6606019aSub2
import Derived.Deep.RegionWith
import Derived.BigQuiet
import Derived.BigRegion
import Derived.Deep.RegionHeld3
namespace Go.Proofs.Qxb6606019a
open Go.RowKit

theorem Try.info85 : (Try.prog.info? 85).map (fun i => (i.zero, i.size, i.bytes)) = some (some (.agg #[.int .i64 0, .int .i32 0, .int .i8 0]), 3, 16) := by kernel_rfl
theorem Try.info87 : (Try.prog.info? 87).map (fun i => (i.zero, i.size, i.bytes)) = some (some (.agg #[.int .u64 0, .int .i64 0, .pointer none, .int .i64 0, .int .i64 0]), 5, 40) := by kernel_rfl
theorem Try.info89 : (Try.prog.info? 89).map (fun i => (i.zero, i.size, i.bytes)) = some (some (.agg #[.int .i32 0, .int .i32 0]), 2, 8) := by kernel_rfl

/-- Block p holds the struct freedPlaces: its entries lie in g1, its conts in g2, its tree in g3. -/
structure FP (w : World) (g1 g2 g3 p c1 c2 c3 n m l : Nat) (f0 f1 f2 f3 f4 f5 f6 f7 : Nat → Int) (x y z : Int) : Prop where
  b1 : Blk w g1 (n * 3)
  b2 : Blk w g2 (m * 5)
  b3 : Blk w g3 (l * 2)
  bp : Blk w p 6
  e1 : Flat w g1 (n * 3) (hE f0 f1 f2)
  e2 : Flat w g2 (m * 5) (hC f3 f4 f5)
  e3 : Flat w g3 (l * 2) (hT f6 f7)
  p0 : w.cell? ⟨p, 0, none⟩ = some (.slice (some ⟨g1, 0, none⟩) n c1)
  p1 : w.cell? ⟨p, 1, none⟩ = some (.slice (some ⟨g2, 0, none⟩) m c2)
  p2 : w.cell? ⟨p, 2, none⟩ = some (.slice (some ⟨g3, 0, none⟩) l c3)
  p3 : w.cell? ⟨p, 3, none⟩ = some (.int .i64 x)
  p4 : w.cell? ⟨p, 4, none⟩ = some (.int .i64 y)
  p5 : w.cell? ⟨p, 5, none⟩ = some (.int .i64 z)

/-- What ZZNewFreedPlaces leaves. -/
def Made (n m l : Nat) (f0 f1 f2 f3 f4 f5 f6 f7 : Nat → Int) (x y z : Int) (w : World) (e : Ending) (w' : World) : Prop :=
  ∃ g1 g2 g3 p c1 c2 c3, e = .returned (.pointer (some ⟨p, 0, none⟩)) ∧ Below w.heap.size w w' ∧ w.heap.size ≤ g1 ∧ g1 < g2 ∧ g2 < g3 ∧ g3 < p ∧
    FP w' g1 g2 g3 p c1 c2 c3 n m l f0 f1 f2 f3 f4 f5 f6 f7 x y z

set_option maxHeartbeats 1000000 in
theorem new_any (a0 a1 a2 a3 a4 a5 a6 : Option Addr) (c0 c1 c2 c3 c4 c5 c6 n m l : Nat) (f0 f1 f2 f3 f4 f5 f6 f7 : Nat → Int) (x y z : Int) (hn : n ≤ 65536) (hm : m ≤ 65536) (hl : l ≤ 65536) (w : World)
    (i0 : Ints w.heap.size w a0 .i64 n f0) (i1 : Ints w.heap.size w a1 .i32 n f1) (i2 : Ints w.heap.size w a2 .i8 n f2)
    (i3 : Ints w.heap.size w a3 .i64 m f3) (i4 : Ints w.heap.size w a4 .i64 m f4) (i5 : Ints w.heap.size w a5 .i64 m f5) (i6 : Prs w.heap.size w a6 l f6 f7)
    (r3 : Hid (∀ i, i < m → -9223372036854775808 ≤ f3 i ∧ f3 i ≤ 9223372036854775807)) :
    Calls Try.prog 23 #[.slice a0 n c0, .slice a1 n c1, .slice a2 n c2, .slice a3 m c3, .slice a4 m c4, .slice a5 m c5, .slice a6 l c6, .int .i64 x, .int .i64 y, .int .i64 z] w (Made n m l f0 f1 f2 f3 f4 f5 f6 f7 x y z w) := by
  have H : Hid (Ints w.heap.size w a0 .i64 n f0 ∧ Ints w.heap.size w a1 .i32 n f1 ∧ Ints w.heap.size w a2 .i8 n f2 ∧ Ints w.heap.size w a3 .i64 m f3 ∧ Ints w.heap.size w a4 .i64 m f4 ∧ Ints w.heap.size w a5 .i64 m f5 ∧ Prs w.heap.size w a6 l f6 f7) := ⟨i0, i1, i2, i3, i4, i5, i6⟩
  clear i0 i1 i2 i3 i4 i5 i6
  have hm1 := make_row 74 85 _ _ _ Try.underlying74 Try.info85 n (by omega) (by omega)
  have hm2 := make_row 73 87 _ _ _ Try.underlying73 Try.info87 m (by omega) (by omega)
  have hm3 := make_row 75 89 _ _ _ Try.underlying75 Try.info89 l (by omega) (by omega)
  go_enter Try.func23, Try.ntmps23
  go_wp2
  go_loopw [32] (fun i wr => ∃ k : Nat, k ≤ n ∧ i = .int .i64 k ∧ Hid (Below w.heap.size w wr ∧ Blk wr w.heap.size (n * 3) ∧ Flat wr w.heap.size (k * 3) (hE f0 f1 f2))) (fun i _ => n - (intOf i).toNat)
  case atStart => exact ⟨0, Nat.zero_le _, rfl, (Below.refl _ _).alloc (Nat.le_refl _) _, Blk.made _ _ _ _ (by simp [size_madeCells]), fun i hi => by omega⟩
  case round =>
    obtain ⟨k, hk, rfl, HR⟩ := hrel
    by_cases hlt : k < n
    · obtain ⟨i0, i1, i2, _⟩ := H.out
      rcases i0 with h | ⟨b0, o0, rfl, hb0, hc0⟩
      · omega
      rcases i1 with h | ⟨b1, o1, rfl, hb1, hc1⟩
      · omega
      rcases i2 with h | ⟨b2, o2, rfl, hb2, hc2⟩
      · omega
      have hx0 : wr.cell? ⟨b0, o0 + k, none⟩ = some (.int .i64 (f0 k)) := (HR.out.1.cell (p := ⟨b0, o0 + k, none⟩) hb0).trans (hc0 k hlt)
      have hx1 : wr.cell? ⟨b1, o1 + k, none⟩ = some (.int .i32 (f1 k)) := (HR.out.1.cell (p := ⟨b1, o1 + k, none⟩) hb1).trans (hc1 k hlt)
      have hx2 : wr.cell? ⟨b2, o2 + k, none⟩ = some (.int .i8 (f2 k)) := (HR.out.1.cell (p := ⟨b2, o2 + k, none⟩) hb2).trans (hc2 k hlt)
      clear hc0 hc1 hc2 hm1 hm2 hm3
      obtain ⟨v0, hv0⟩ := HR.out.2.1.cell (j := k * 3) (by omega)
      obtain ⟨v1, hv1⟩ := HR.out.2.1.cell (j := k * 3 + 1) (by omega)
      obtain ⟨v2, hv2⟩ := HR.out.2.1.cell (j := k * 3 + 2) (by omega)
      have hfz0 := HR.out.2.1.frozen (k * 3)
      have hfz1 := HR.out.2.1.frozen (k * 3 + 1)
      have hfz2 := HR.out.2.1.frozen (k * 3 + 2)
      go_wp2
      go_region
      all_goals
        go_wp2
        go_roundw
        case rel => exact ⟨k + 1, by omega, by go_num, (((HR.out.1.setCell (Nat.le_refl _) _).setCell (Nat.le_refl _) _).setCell (Nat.le_refl _) _).drew, (((HR.out.2.1.setCell _ _).setCell _ _).setCell _ _).drew, (HR.out.2.2.putE HR.out.2.1 hlt).drew⟩
        case measure => simp [intOf]; omega
    · go_wp2
      clear hm1 hm2
      obtain rfl : n = k := by omega
      rename World => w1
      have hz1 : w.heap.size < w1.heap.size := HR.out.2.1.lt
      go_loopw [57] (fun i wr => ∃ k : Nat, k ≤ m ∧ i = .int .i64 k ∧ Hid (Below w.heap.size w wr ∧ w1.heap.size + 1 ≤ wr.heap.size ∧ (Blk wr w.heap.size (n * 3) ∧ Flat wr w.heap.size (n * 3) (hE f0 f1 f2)) ∧ Blk wr w1.heap.size (m * 5) ∧ Flat wr w1.heap.size (k * 5) (hC f3 f4 f5))) (fun i _ => m - (intOf i).toNat)
      case atStart => exact ⟨0, Nat.zero_le _, rfl, HR.out.1.alloc (by omega) _, by simp, ⟨HR.out.2.1.alloc _, HR.out.2.2.alloc _⟩, Blk.made _ _ _ _ (by simp [size_madeCells]), fun i hi => by omega⟩
      case round =>
        clear HR
        obtain ⟨k, hk, rfl, HR⟩ := hrel
        by_cases hlt : k < m
        · obtain ⟨_, _, _, i0, i1, i2, _⟩ := H.out
          rcases i0 with h | ⟨b0, o0, rfl, hb0, hc0⟩
          · omega
          rcases i1 with h | ⟨b1, o1, rfl, hb1, hc1⟩
          · omega
          rcases i2 with h | ⟨b2, o2, rfl, hb2, hc2⟩
          · omega
          have hx0 : wr.cell? ⟨b0, o0 + k, none⟩ = some (.int .i64 (f3 k)) := (HR.out.1.cell (p := ⟨b0, o0 + k, none⟩) hb0).trans (hc0 k hlt)
          have hx1 : wr.cell? ⟨b1, o1 + k, none⟩ = some (.int .i64 (f4 k)) := (HR.out.1.cell (p := ⟨b1, o1 + k, none⟩) hb1).trans (hc1 k hlt)
          have hx2 : wr.cell? ⟨b2, o2 + k, none⟩ = some (.int .i64 (f5 k)) := (HR.out.1.cell (p := ⟨b2, o2 + k, none⟩) hb2).trans (hc2 k hlt)
          have hs := HR.out.2.1
          have hbl := HR.out.2.2.2.1
          clear hc0 hc1 hc2 hm3
          have HB : Hid (b0 < w.heap.size ∧ b1 < w.heap.size ∧ b2 < w.heap.size ∧ b0 < wr.heap.size ∧ b1 < wr.heap.size ∧ b2 < wr.heap.size) := ⟨hb0, hb1, hb2, by omega, by omega, by omega⟩
          have hb0' : b0 < wr.heap.size := by omega
          have hb1' : b1 < wr.heap.size := by omega
          have hb2' : b2 < wr.heap.size := by omega
          have hg : w1.heap.size < wr.heap.size := by omega
          have hn0 : b0 ≠ w1.heap.size := by omega
          have hn1 : b1 ≠ w1.heap.size := by omega
          have hn2 : b2 ≠ w1.heap.size := by omega
          have ha1 : b1 < wr.heap.size + 1 := by omega
          have ha2 : b1 < wr.heap.size + 1 + 1 := by omega
          have ha3 : b2 < wr.heap.size + 1 := by omega
          have ha4 : b2 < wr.heap.size + 1 + 1 := by omega
          have ha5 : w1.heap.size < wr.heap.size + 1 := by omega
          have ha6 : w1.heap.size < wr.heap.size + 1 + 1 := by omega
          clear hb0 hb1 hb2 hs
          have HBL : Hid (Blk wr w1.heap.size (m * 5)) := hbl
          clear hbl
          obtain ⟨v0, hv0⟩ := HBL.out.cell (j := k * 5) (by omega)
          obtain ⟨v1, hv1⟩ := HBL.out.cell (j := k * 5 + 1) (by omega)
          obtain ⟨v2, hv2⟩ := HBL.out.cell (j := k * 5 + 2) (by omega)
          obtain ⟨v3, hv3⟩ := HBL.out.cell (j := k * 5 + 3) (by omega)
          obtain ⟨v4, hv4⟩ := HBL.out.cell (j := k * 5 + 4) (by omega)
          have hfz0 := HBL.out.frozen (k * 5)
          have hfz1 := HBL.out.frozen (k * 5 + 1)
          have hfz2 := HBL.out.frozen (k * 5 + 2)
          have hfz3 := HBL.out.frozen (k * 5 + 3)
          have hfz4 := HBL.out.frozen (k * 5 + 4)
          go_wp2
          go_region_held3 (fun w' => w'.cell? ⟨b0, o0 + k, none⟩ = some (.int .i64 (f3 k)) ∧ w'.cell? ⟨b1, o1 + k, none⟩ = some (.int .i64 (f4 k)) ∧ w'.cell? ⟨b2, o2 + k, none⟩ = some (.int .i64 (f5 k))) (refine ⟨?_, ?_, ?_⟩ <;> (repeat (first | with_reducible assumption | with_reducible refine cell_drew' ?_ | with_reducible refine cell_alloc' ?_ _ | with_reducible refine cell_set' ?_ ?_ | omega)))
            (first | (go_at_call 28; refine (timeOf_any (f3 k) (r3.out k hlt).1 (r3.out k hlt).2 _).mono ?_; rintro e w' ⟨rfl, rfl⟩))
          go_wp2
          go_roundw
          case rel =>
            obtain ⟨h1, h2, h3, h4, h5⟩ := HR.out
            have hd : w.heap.size ≠ w1.heap.size := by omega
            refine ⟨k + 1, by omega, by go_num, by go_grown, by simp; omega, ⟨?_, ?_⟩, ?_, ?_⟩
            · repeat (first | with_reducible exact h3.1 | with_reducible refine Blk.drew ?_ | with_reducible refine Blk.alloc ?_ _ | with_reducible refine Blk.setCell ?_ _ _)
            · repeat (first | with_reducible exact h3.2 | with_reducible refine Flat.drew ?_ | with_reducible refine Flat.alloc ?_ _ | with_reducible refine Flat.setOther ?_ hd _)
            · repeat (first | with_reducible exact h4 | with_reducible refine Blk.drew ?_ | with_reducible refine Blk.alloc ?_ _ | with_reducible refine Blk.setCell ?_ _ _)
            · repeat (first | with_reducible exact h5.putC h4 hlt | with_reducible refine Flat.drew ?_ | with_reducible refine Flat.alloc ?_ _)
          case measure => simp [intOf]; omega
        · go_wp2
          clear hm3
          obtain rfl : m = k := by omega
          rename World => w2
          have hz2 : w1.heap.size < w2.heap.size := by have := HR.out.2.1; omega
          go_loopw [83] (fun i wr => ∃ k : Nat, k ≤ l ∧ i = .int .i64 k ∧ Hid (Below w.heap.size w wr ∧ w2.heap.size + 1 ≤ wr.heap.size ∧ (Blk wr w.heap.size (n * 3) ∧ Flat wr w.heap.size (n * 3) (hE f0 f1 f2)) ∧ (Blk wr w1.heap.size (m * 5) ∧ Flat wr w1.heap.size (m * 5) (hC f3 f4 f5)) ∧ Blk wr w2.heap.size (l * 2) ∧ Flat wr w2.heap.size (k * 2) (hT f6 f7))) (fun i _ => l - (intOf i).toNat)
          case atStart => exact ⟨0, Nat.zero_le _, rfl, HR.out.1.alloc (by omega) _, by simp, ⟨HR.out.2.2.1.1.alloc _, HR.out.2.2.1.2.alloc _⟩, ⟨HR.out.2.2.2.1.alloc _, HR.out.2.2.2.2.alloc _⟩, Blk.made _ _ _ _ (by simp [size_madeCells]), fun i hi => by omega⟩
          case round =>
            clear HR
            obtain ⟨k, hk, rfl, HR⟩ := hrel
            by_cases hlt : k < l
            · obtain ⟨_, _, _, _, _, _, i0⟩ := H.out
              rcases i0 with h | ⟨b0, o0, rfl, hb0, hc0⟩
              · omega
              have hx0 : wr.cell? ⟨b0, o0 + k * 2, none⟩ = some (.int .i32 (f6 k)) := (HR.out.1.cell (p := ⟨b0, o0 + k * 2, none⟩) hb0).trans (hc0 k hlt).1
              have hx1 : wr.cell? ⟨b0, o0 + k * 2 + 1, none⟩ = some (.int .i32 (f7 k)) := (HR.out.1.cell (p := ⟨b0, o0 + k * 2 + 1, none⟩) hb0).trans (hc0 k hlt).2
              clear hc0 hb0
              obtain ⟨v0, hv0⟩ := HR.out.2.2.2.2.1.cell (j := k * 2) (by omega)
              obtain ⟨v1, hv1⟩ := HR.out.2.2.2.2.1.cell (j := k * 2 + 1) (by omega)
              have hfz0 := HR.out.2.2.2.2.1.frozen (k * 2)
              have hfz1 := HR.out.2.2.2.2.1.frozen (k * 2 + 1)
              go_wp2
              go_region
              all_goals
                go_wp2
                go_roundw
                case rel =>
                  obtain ⟨h1, h2, ⟨h3, h4⟩, ⟨h5, h6⟩, h7, h8⟩ := HR.out
                  have hd1 : w.heap.size ≠ w2.heap.size := by omega
                  have hd2 : w1.heap.size ≠ w2.heap.size := by omega
                  exact ⟨k + 1, by omega, by go_num, ((h1.setCell (by show _ ≤ w2.heap.size; omega) _).setCell (by show _ ≤ w2.heap.size; omega) _).drew, by simp; omega, ⟨((h3.setCell _ _).setCell _ _).drew, ((h4.setOther hd1 _).setOther hd1 _).drew⟩, ⟨((h5.setCell _ _).setCell _ _).drew, ((h6.setOther hd2 _).setOther hd2 _).drew⟩, ((h7.setCell _ _).setCell _ _).drew, (h8.putT h7 hlt).drew⟩
                case measure => simp [intOf]; omega
            · go_wp2
              obtain rfl : l = k := by omega
              go_ret
              obtain ⟨h1, h2, ⟨h3, h4⟩, ⟨h5, h6⟩, h7, h8⟩ := HR.out
              refine ⟨w.heap.size, w1.heap.size, w2.heap.size, wr.heap.size, n, m, l, rfl, h1.alloc (by omega) _, Nat.le_refl _, hz1, hz2, h2, ?_⟩
              exact { b1 := h3.alloc _, b2 := h5.alloc _, b3 := h7.alloc _, bp := Blk.made _ _ _ 6 (by simp), e1 := h4.alloc _, e2 := h6.alloc _, e3 := h8.alloc _, p0 := by simp [go_sem], p1 := by simp [go_sem], p2 := by simp [go_sem], p3 := by simp [go_sem], p4 := by simp [go_sem], p5 := by simp [go_sem] }
end Go.Proofs.Qxb6606019a
