import Derived.Test.Qxb6606019aSet
import Derived.ChangeKeysEq
namespace Go.Proofs.Qxb6606019a
open Go.RowKit

theorem Try.cells21 : Try.prog.cellsOf 21 = 1 := by kernel_rfl
theorem eq83 (a b : Int) (w : World) : (Op.equalIn 10000 83 (.agg #[.int .i32 a, .int .i32 b]) (.agg #[.int .i32 a, .int .i32 b])).run Try.prog w = .ok true w := by
  obtain ⟨i, hi, _, _, _⟩ := info_parts Try.info21
  rw [run_equalIn_array w 9999 _ _ Try.underlying83 hi, Try.cells21]
  have e : ∀ (x : Int) w, (Op.equalIn 9999 21 (.int .i32 x) (.int .i32 x)).run Try.prog w = .ok true w := fun x w => by
    rw [run_equalIn_int w 9998 21 .i32 .i32 x x Try.underlying21]; simp
  simp [List.range_succ, Op.eqItems, part, isAgg, run_underlying Try.underlying21, e]

theorem FP.below {w w' : World} {g1 g2 g3 p c1 c2 c3 n m l : Nat} {f0 f1 f2 f3 f4 f5 f6 f7 : Nat → Int} {x y z : Int} (F : FP w g1 g2 g3 p c1 c2 c3 n m l f0 f1 f2 f3 f4 f5 f6 f7 x y z) (h : Below w.heap.size w w') :
    FP w' g1 g2 g3 p c1 c2 c3 n m l f0 f1 f2 f3 f4 f5 f6 f7 x y z :=
  have k : Kept (fun _ => False) w w' := Kept.of_below h
  { b1 := k.blk F.b1 id, b2 := k.blk F.b2 id, b3 := k.blk F.b3 id, bp := k.blk F.bp id, e1 := F.e1.kept k id, e2 := F.e2.kept k id, e3 := F.e3.kept k id,
    p0 := k.cell F.p0 id, p1 := k.cell F.p1 id, p2 := k.cell F.p2 id, p3 := k.cell F.p3 id, p4 := k.cell F.p4 id, p5 := k.cell F.p5 id }
theorem below_draws {B : Nat} {a w : World} (h : Below B a w) (n : Nat) : Below B a (w.drewN n) := ⟨h.os, h.tape, h.output, h.size, h.block⟩

set_option maxRecDepth 100000 in
set_option maxHeartbeats 4000000 in
theorem reads_no (g1 g2 g3 p d1 d2 d3 : Nat) (a0 a1 a2 a3 a4 a5 a6 : Option Addr) (c0 c1 c2 c3 c4 c5 c6 n m l : Nat) (f0 f1 f2 f3 f4 f5 f6 f7 : Nat → Int) (x y z : Int) (hn : n ≤ 65536) (hm : m ≤ 65536) (hl : l ≤ 65536) (w : World)
    (i0 : Ints w.heap.size w a0 .i64 n f0) (i1 : Ints w.heap.size w a1 .i32 n f1) (i2 : Ints w.heap.size w a2 .i8 n f2)
    (i3 : Ints w.heap.size w a3 .i64 m f3) (i4 : Ints w.heap.size w a4 .i64 m f4) (i5 : Ints w.heap.size w a5 .i64 m f5) (i6 : Prs w.heap.size w a6 l f6 f7)
    (r3 : Hid (∀ i, i < m → -9223372036854775808 ≤ f3 i ∧ f3 i ≤ 9223372036854775807))
    (F : FP w g1 g2 g3 p d1 d2 d3 n m l f0 f1 f2 f3 f4 f5 f6 f7 x y z) :
    Calls Try.prog 25 #[.pointer (some ⟨p, 0, none⟩), .bool false, .slice a0 n c0, .slice a1 n c1, .slice a2 n c2, .slice a3 m c3, .slice a4 m c4, .slice a5 m c5, .slice a6 l c6, .int .i64 x, .int .i64 y, .int .i64 z] w
      fun e w' => e = .returned (.bool true) ∧ Below w.heap.size w w' := by
  have H : Hid (Ints w.heap.size w a0 .i64 n f0 ∧ Ints w.heap.size w a1 .i32 n f1 ∧ Ints w.heap.size w a2 .i8 n f2 ∧ Ints w.heap.size w a3 .i64 m f3 ∧ Ints w.heap.size w a4 .i64 m f4 ∧ Ints w.heap.size w a5 .i64 m f5 ∧ Prs w.heap.size w a6 l f6 f7) := ⟨i0, i1, i2, i3, i4, i5, i6⟩
  clear i0 i1 i2 i3 i4 i5 i6
  have HF : Hid (FP w g1 g2 g3 p d1 d2 d3 n m l f0 f1 f2 f3 f4 f5 f6 f7 x y z) := F
  clear F
  go_enter Try.func25, Try.ntmps25
  go_wp2_with fail
  refine (entries_any g1 g2 g3 p d1 d2 d3 n m l f0 f1 f2 f3 f4 f5 f6 f7 x y z hn w HF.out).mono ?_
  rintro e w1 ⟨e1, e2, e3, b1, b2, b3, rfl, G1⟩
  have HG1 : Hid _ := G1
  clear G1
  go_wp2_with fail
  go_loopw [28] (fun i wr => ∃ k : Nat, k ≤ n ∧ i = .int .i64 k ∧ Hid (Below w1.heap.size w1 wr)) (fun i _ => n - (intOf i).toNat)
  case atStart => exact ⟨0, Nat.zero_le _, rfl, Below.refl _ _⟩
  case round =>
    obtain ⟨k, hk, rfl, HR⟩ := hrel
    by_cases hlt : k < n
    · have hB : Below w.heap.size w wr := HG1.out.1.trans (HR.out.mono HG1.out.1.size)
      obtain ⟨i0, i1, i2, _⟩ := H.out
      obtain ⟨_, j0, j1, j2⟩ := HG1.out
      rcases i0 with h | ⟨b0, o0, rfl, hb0, hc0⟩
      · omega
      rcases i1 with h | ⟨b1, o1, rfl, hb1, hc1⟩
      · omega
      rcases i2 with h | ⟨b2, o2, rfl, hb2, hc2⟩
      · omega
      rcases j0 with h | ⟨q0, s0, rfl, hq0, hd0⟩
      · omega
      rcases j1 with h | ⟨q1, s1, rfl, hq1, hd1⟩
      · omega
      rcases j2 with h | ⟨q2, s2, rfl, hq2, hd2⟩
      · omega
      have hx0 : wr.cell? ⟨b0, o0 + k, none⟩ = some (.int .i64 (f0 k)) := (hB.cell (p := ⟨b0, o0 + k, none⟩) hb0).trans (hc0 k hlt)
      have hx1 : wr.cell? ⟨b1, o1 + k, none⟩ = some (.int .i32 (f1 k)) := (hB.cell (p := ⟨b1, o1 + k, none⟩) hb1).trans (hc1 k hlt)
      have hx2 : wr.cell? ⟨b2, o2 + k, none⟩ = some (.int .i8 (f2 k)) := (hB.cell (p := ⟨b2, o2 + k, none⟩) hb2).trans (hc2 k hlt)
      have hy0 : wr.cell? ⟨q0, s0 + k, none⟩ = some (.int .i64 (f0 k)) := (HR.out.cell (p := ⟨q0, s0 + k, none⟩) hq0).trans (hd0 k hlt)
      have hy1 : wr.cell? ⟨q1, s1 + k, none⟩ = some (.int .i32 (f1 k)) := (HR.out.cell (p := ⟨q1, s1 + k, none⟩) hq1).trans (hd1 k hlt)
      have hy2 : wr.cell? ⟨q2, s2 + k, none⟩ = some (.int .i8 (f2 k)) := (HR.out.cell (p := ⟨q2, s2 + k, none⟩) hq2).trans (hd2 k hlt)
      clear hc0 hc1 hc2 hd0 hd1 hd2 hB hb0 hb1 hb2 hq0 hq1 hq2
      go_wp2_with fail
      go_quiet (fail)
      go_wp2_with fail
      go_roundw
      case rel => exact ⟨k + 1, by omega, by go_num, below_draws HR.out _⟩
      case measure => simp [intOf]; omega
    · go_wp2_with fail
      obtain rfl : n = k := by omega
      have HB1 : Hid (Below w.heap.size w wr) := HG1.out.1.trans (HR.out.mono HG1.out.1.size)
      clear HG1 HR
      refine (conts_any g1 g2 g3 p d1 d2 d3 n m l f0 f1 f2 f3 f4 f5 f6 f7 x y z hm r3 wr (HF.out.below HB1.out)).mono ?_
      rintro e w2 ⟨e1, e2, e3, b1, b2, b3, rfl, G1⟩
      have HG2 : Hid _ := G1
      have HB2 : Hid (Below w.heap.size w w2) := HB1.out.trans (G1.1.mono HB1.out.size)
      clear G1 HB1
      go_wp2_with fail
      go_loopw [35] (fun i wr => ∃ k : Nat, k ≤ m ∧ i = .int .i64 k ∧ Hid (Below w2.heap.size w2 wr)) (fun i _ => m - (intOf i).toNat)
      case atStart => exact ⟨0, Nat.zero_le _, rfl, Below.refl _ _⟩
      case round =>
        obtain ⟨k, hk, rfl, HR⟩ := hrel
        by_cases hlt : k < m
        · have hB : Below w.heap.size w wr := HB2.out.trans (HR.out.mono HB2.out.size)
          obtain ⟨_, _, _, i0, i1, i2, _⟩ := H.out
          obtain ⟨_, j0, j1, j2⟩ := HG2.out
          rcases i0 with h | ⟨b0, o0, rfl, hb0, hc0⟩
          · omega
          rcases i1 with h | ⟨b1, o1, rfl, hb1, hc1⟩
          · omega
          rcases i2 with h | ⟨b2, o2, rfl, hb2, hc2⟩
          · omega
          rcases j0 with h | ⟨q0, s0, rfl, hq0, hd0⟩
          · omega
          rcases j1 with h | ⟨q1, s1, rfl, hq1, hd1⟩
          · omega
          rcases j2 with h | ⟨q2, s2, rfl, hq2, hd2⟩
          · omega
          have hx0 : wr.cell? ⟨b0, o0 + k, none⟩ = some (.int .i64 (f3 k)) := (hB.cell (p := ⟨b0, o0 + k, none⟩) hb0).trans (hc0 k hlt)
          have hx1 : wr.cell? ⟨b1, o1 + k, none⟩ = some (.int .i64 (f4 k)) := (hB.cell (p := ⟨b1, o1 + k, none⟩) hb1).trans (hc1 k hlt)
          have hx2 : wr.cell? ⟨b2, o2 + k, none⟩ = some (.int .i64 (f5 k)) := (hB.cell (p := ⟨b2, o2 + k, none⟩) hb2).trans (hc2 k hlt)
          have hy0 : wr.cell? ⟨q0, s0 + k, none⟩ = some (.int .i64 (f3 k)) := (HR.out.cell (p := ⟨q0, s0 + k, none⟩) hq0).trans (hd0 k hlt)
          have hy1 : wr.cell? ⟨q1, s1 + k, none⟩ = some (.int .i64 (f4 k)) := (HR.out.cell (p := ⟨q1, s1 + k, none⟩) hq1).trans (hd1 k hlt)
          have hy2 : wr.cell? ⟨q2, s2 + k, none⟩ = some (.int .i64 (f5 k)) := (HR.out.cell (p := ⟨q2, s2 + k, none⟩) hq2).trans (hd2 k hlt)
          clear hc0 hc1 hc2 hd0 hd1 hd2 hB hb0 hb1 hb2 hq0 hq1 hq2
          go_wp2_with fail
          go_quiet (fail)
          go_wp2_with fail
          go_roundw
          case rel => exact ⟨k + 1, by omega, by go_num, below_draws HR.out _⟩
          case measure => simp [intOf]; omega
        · go_wp2_with fail
          obtain rfl : m = k := by omega
          have HB3 : Hid (Below w.heap.size w wr) := HB2.out.trans (HR.out.mono HB2.out.size)
          clear HG2 HR HB2
          refine (tree_any g1 g2 g3 p d1 d2 d3 n m l f0 f1 f2 f3 f4 f5 f6 f7 x y z hl wr (HF.out.below HB3.out)).mono ?_
          rintro e w3 ⟨e1, b1, rfl, G1⟩
          have HG3 : Hid _ := G1
          have HB4 : Hid (Below w.heap.size w w3) := HB3.out.trans (G1.1.mono HB3.out.size)
          clear G1 HB3
          go_wp2_with fail
          go_loopw [40] (fun i wr => ∃ k : Nat, k ≤ l ∧ i = .int .i64 k ∧ Hid (Below w3.heap.size w3 wr)) (fun i _ => l - (intOf i).toNat)
          case atStart => exact ⟨0, Nat.zero_le _, rfl, Below.refl _ _⟩
          case round =>
            obtain ⟨k, hk, rfl, HR⟩ := hrel
            by_cases hlt : k < l
            · have hB : Below w.heap.size w wr := HB4.out.trans (HR.out.mono HB4.out.size)
              obtain ⟨_, _, _, _, _, _, i0⟩ := H.out
              obtain ⟨_, j0⟩ := HG3.out
              rcases i0 with h | ⟨b0, o0, rfl, hb0, hc0⟩
              · omega
              rcases j0 with h | ⟨q0, s0, rfl, hq0, hd0⟩
              · omega
              have hx0 : wr.cell? ⟨b0, o0 + k * 2, none⟩ = some (.int .i32 (f6 k)) := (hB.cell (p := ⟨b0, o0 + k * 2, none⟩) hb0).trans (hc0 k hlt).1
              have hx1 : wr.cell? ⟨b0, o0 + k * 2 + 1, none⟩ = some (.int .i32 (f7 k)) := (hB.cell (p := ⟨b0, o0 + k * 2 + 1, none⟩) hb0).trans (hc0 k hlt).2
              have hy0 : wr.cell? ⟨q0, s0 + k * 2, none⟩ = some (.int .i32 (f6 k)) := (HR.out.cell (p := ⟨q0, s0 + k * 2, none⟩) hq0).trans (hd0 k hlt).1
              have hy1 : wr.cell? ⟨q0, s0 + k * 2 + 1, none⟩ = some (.int .i32 (f7 k)) := (HR.out.cell (p := ⟨q0, s0 + k * 2 + 1, none⟩) hq0).trans (hd0 k hlt).2
              have hbl : b0 < wr.heap.size := lt_of_cell hx0
              have hql : q0 < wr.heap.size := lt_of_cell hy0
              clear hc0 hd0 hB hb0 hq0
              have h83 := eq83
              go_wp2_with fail
              go_quiet (fail)
              go_wp2_with fail
              go_roundw
              case rel => exact ⟨k + 1, by omega, by go_num, below_draws (HR.out.alloc HR.out.size _) _⟩
              case measure => simp [intOf]; omega
            · go_wp2_with fail
              have HB5 : Hid (Below w.heap.size w wr) := HB4.out.trans (HR.out.mono HB4.out.size)
              clear HG3 HR HB4
              refine (counts_any g1 g2 g3 p d1 d2 d3 n m l f0 f1 f2 f3 f4 f5 f6 f7 x y z wr (HF.out.below HB5.out)).mono ?_
              rintro e w4 ⟨rfl, hb4⟩
              have HB6 : Hid (Below w.heap.size w w4) := HB5.out.trans (hb4.mono HB5.out.size)
              clear HB5 hb4
              go_wp2_with fail
              go_ret
              exact ⟨rfl, HB6.out⟩

set_option maxRecDepth 100000 in
set_option maxHeartbeats 4000000 in
theorem reads_yes (c64 c32 c8 : Int → Int) (q64 : ∀ v, bits .xor .i64 (if IntKind.i64.signed = true then -1 else 9223372036854775807) v = c64 v) (q32 : ∀ v, bits .xor .i32 (if IntKind.i32.signed = true then -1 else IntKind.i32.max) v = c32 v) (q8 : ∀ v, bits .xor .i8 (if IntKind.i8.signed = true then -1 else IntKind.i8.max) v = c8 v)
    (r64 : Hid (∀ v, -9223372036854775808 ≤ c64 v ∧ c64 v ≤ 9223372036854775807)) (g1 g2 g3 p d1 d2 d3 : Nat) (a0 a1 a2 a3 a4 a5 a6 : Option Addr) (c0 c1 c2 c3 c4 c5 c6 n m l : Nat) (f0 f1 f2 f3 f4 f5 f6 f7 : Nat → Int) (x y z : Int) (hn : n ≤ 65536) (hm : m ≤ 65536) (hl : l ≤ 65536) (w : World)
    (i0 : Ints w.heap.size w a0 .i64 n f0) (i1 : Ints w.heap.size w a1 .i32 n f1) (i2 : Ints w.heap.size w a2 .i8 n f2)
    (i3 : Ints w.heap.size w a3 .i64 m f3) (i4 : Ints w.heap.size w a4 .i64 m f4) (i5 : Ints w.heap.size w a5 .i64 m f5) (i6 : Prs w.heap.size w a6 l f6 f7)
    (F : FP w g1 g2 g3 p d1 d2 d3 n m l (fun i => c64 (f0 i)) (fun i => c32 (f1 i)) (fun i => c8 (f2 i)) (fun i => c64 (f3 i)) (fun i => c64 (f4 i)) (fun i => c64 (f5 i)) (fun i => c32 (f6 i)) (fun i => c32 (f7 i)) (c64 x) (c64 y) (c64 z)) :
    Calls Try.prog 25 #[.pointer (some ⟨p, 0, none⟩), .bool true, .slice a0 n c0, .slice a1 n c1, .slice a2 n c2, .slice a3 m c3, .slice a4 m c4, .slice a5 m c5, .slice a6 l c6, .int .i64 x, .int .i64 y, .int .i64 z] w
      fun e w' => e = .returned (.bool true) ∧ Below w.heap.size w w' := by
  have H : Hid (Ints w.heap.size w a0 .i64 n f0 ∧ Ints w.heap.size w a1 .i32 n f1 ∧ Ints w.heap.size w a2 .i8 n f2 ∧ Ints w.heap.size w a3 .i64 m f3 ∧ Ints w.heap.size w a4 .i64 m f4 ∧ Ints w.heap.size w a5 .i64 m f5 ∧ Prs w.heap.size w a6 l f6 f7) := ⟨i0, i1, i2, i3, i4, i5, i6⟩
  clear i0 i1 i2 i3 i4 i5 i6
  have HF : Hid (FP w g1 g2 g3 p d1 d2 d3 n m l (fun i => c64 (f0 i)) (fun i => c32 (f1 i)) (fun i => c8 (f2 i)) (fun i => c64 (f3 i)) (fun i => c64 (f4 i)) (fun i => c64 (f5 i)) (fun i => c32 (f6 i)) (fun i => c32 (f7 i)) (c64 x) (c64 y) (c64 z)) := F
  clear F
  go_enter Try.func25, Try.ntmps25
  go_wp2_with fail
  refine (entries_any g1 g2 g3 p d1 d2 d3 n m l (fun i => c64 (f0 i)) (fun i => c32 (f1 i)) (fun i => c8 (f2 i)) (fun i => c64 (f3 i)) (fun i => c64 (f4 i)) (fun i => c64 (f5 i)) (fun i => c32 (f6 i)) (fun i => c32 (f7 i)) (c64 x) (c64 y) (c64 z) hn w HF.out).mono ?_
  rintro e w1 ⟨e1, e2, e3, b1, b2, b3, rfl, G1⟩
  have HG1 : Hid _ := G1
  clear G1
  go_wp2_with fail
  go_loopw [28] (fun i wr => ∃ k : Nat, k ≤ n ∧ i = .int .i64 k ∧ Hid (Below w1.heap.size w1 wr)) (fun i _ => n - (intOf i).toNat)
  case atStart => exact ⟨0, Nat.zero_le _, rfl, Below.refl _ _⟩
  case round =>
    obtain ⟨k, hk, rfl, HR⟩ := hrel
    by_cases hlt : k < n
    · have hB : Below w.heap.size w wr := HG1.out.1.trans (HR.out.mono HG1.out.1.size)
      obtain ⟨i0, i1, i2, _⟩ := H.out
      obtain ⟨_, j0, j1, j2⟩ := HG1.out
      rcases i0 with h | ⟨b0, o0, rfl, hb0, hc0⟩
      · omega
      rcases i1 with h | ⟨b1, o1, rfl, hb1, hc1⟩
      · omega
      rcases i2 with h | ⟨b2, o2, rfl, hb2, hc2⟩
      · omega
      rcases j0 with h | ⟨q0, s0, rfl, hq0, hd0⟩
      · omega
      rcases j1 with h | ⟨q1, s1, rfl, hq1, hd1⟩
      · omega
      rcases j2 with h | ⟨q2, s2, rfl, hq2, hd2⟩
      · omega
      have hx0 : wr.cell? ⟨b0, o0 + k, none⟩ = some (.int .i64 (f0 k)) := (hB.cell (p := ⟨b0, o0 + k, none⟩) hb0).trans (hc0 k hlt)
      have hx1 : wr.cell? ⟨b1, o1 + k, none⟩ = some (.int .i32 (f1 k)) := (hB.cell (p := ⟨b1, o1 + k, none⟩) hb1).trans (hc1 k hlt)
      have hx2 : wr.cell? ⟨b2, o2 + k, none⟩ = some (.int .i8 (f2 k)) := (hB.cell (p := ⟨b2, o2 + k, none⟩) hb2).trans (hc2 k hlt)
      have hy0 : wr.cell? ⟨q0, s0 + k, none⟩ = some (.int .i64 (c64 (f0 k))) := (HR.out.cell (p := ⟨q0, s0 + k, none⟩) hq0).trans (hd0 k hlt)
      have hy1 : wr.cell? ⟨q1, s1 + k, none⟩ = some (.int .i32 (c32 (f1 k))) := (HR.out.cell (p := ⟨q1, s1 + k, none⟩) hq1).trans (hd1 k hlt)
      have hy2 : wr.cell? ⟨q2, s2 + k, none⟩ = some (.int .i8 (c8 (f2 k))) := (HR.out.cell (p := ⟨q2, s2 + k, none⟩) hq2).trans (hd2 k hlt)
      clear hc0 hc1 hc2 hd0 hd1 hd2 hB hb0 hb1 hb2 hq0 hq1 hq2
      go_wp2_with fail
      go_quiet (fail)
      go_wp2_with fail
      go_roundw
      case rel => exact ⟨k + 1, by omega, by go_num, below_draws HR.out _⟩
      case measure => simp [intOf]; omega
    · go_wp2_with fail
      obtain rfl : n = k := by omega
      have HB1 : Hid (Below w.heap.size w wr) := HG1.out.1.trans (HR.out.mono HG1.out.1.size)
      clear HG1 HR
      refine (conts_any g1 g2 g3 p d1 d2 d3 n m l (fun i => c64 (f0 i)) (fun i => c32 (f1 i)) (fun i => c8 (f2 i)) (fun i => c64 (f3 i)) (fun i => c64 (f4 i)) (fun i => c64 (f5 i)) (fun i => c32 (f6 i)) (fun i => c32 (f7 i)) (c64 x) (c64 y) (c64 z) hm (fun i _ => r64.out _) wr (HF.out.below HB1.out)).mono ?_
      rintro e w2 ⟨e1, e2, e3, b1, b2, b3, rfl, G1⟩
      have HG2 : Hid _ := G1
      have HB2 : Hid (Below w.heap.size w w2) := HB1.out.trans (G1.1.mono HB1.out.size)
      clear G1 HB1
      go_wp2_with fail
      go_loopw [35] (fun i wr => ∃ k : Nat, k ≤ m ∧ i = .int .i64 k ∧ Hid (Below w2.heap.size w2 wr)) (fun i _ => m - (intOf i).toNat)
      case atStart => exact ⟨0, Nat.zero_le _, rfl, Below.refl _ _⟩
      case round =>
        obtain ⟨k, hk, rfl, HR⟩ := hrel
        by_cases hlt : k < m
        · have hB : Below w.heap.size w wr := HB2.out.trans (HR.out.mono HB2.out.size)
          obtain ⟨_, _, _, i0, i1, i2, _⟩ := H.out
          obtain ⟨_, j0, j1, j2⟩ := HG2.out
          rcases i0 with h | ⟨b0, o0, rfl, hb0, hc0⟩
          · omega
          rcases i1 with h | ⟨b1, o1, rfl, hb1, hc1⟩
          · omega
          rcases i2 with h | ⟨b2, o2, rfl, hb2, hc2⟩
          · omega
          rcases j0 with h | ⟨q0, s0, rfl, hq0, hd0⟩
          · omega
          rcases j1 with h | ⟨q1, s1, rfl, hq1, hd1⟩
          · omega
          rcases j2 with h | ⟨q2, s2, rfl, hq2, hd2⟩
          · omega
          have hx0 : wr.cell? ⟨b0, o0 + k, none⟩ = some (.int .i64 (f3 k)) := (hB.cell (p := ⟨b0, o0 + k, none⟩) hb0).trans (hc0 k hlt)
          have hx1 : wr.cell? ⟨b1, o1 + k, none⟩ = some (.int .i64 (f4 k)) := (hB.cell (p := ⟨b1, o1 + k, none⟩) hb1).trans (hc1 k hlt)
          have hx2 : wr.cell? ⟨b2, o2 + k, none⟩ = some (.int .i64 (f5 k)) := (hB.cell (p := ⟨b2, o2 + k, none⟩) hb2).trans (hc2 k hlt)
          have hy0 : wr.cell? ⟨q0, s0 + k, none⟩ = some (.int .i64 (c64 (f3 k))) := (HR.out.cell (p := ⟨q0, s0 + k, none⟩) hq0).trans (hd0 k hlt)
          have hy1 : wr.cell? ⟨q1, s1 + k, none⟩ = some (.int .i64 (c64 (f4 k))) := (HR.out.cell (p := ⟨q1, s1 + k, none⟩) hq1).trans (hd1 k hlt)
          have hy2 : wr.cell? ⟨q2, s2 + k, none⟩ = some (.int .i64 (c64 (f5 k))) := (HR.out.cell (p := ⟨q2, s2 + k, none⟩) hq2).trans (hd2 k hlt)
          clear hc0 hc1 hc2 hd0 hd1 hd2 hB hb0 hb1 hb2 hq0 hq1 hq2
          go_wp2_with fail
          go_quiet (fail)
          go_wp2_with fail
          go_roundw
          case rel => exact ⟨k + 1, by omega, by go_num, below_draws HR.out _⟩
          case measure => simp [intOf]; omega
        · go_wp2_with fail
          obtain rfl : m = k := by omega
          have HB3 : Hid (Below w.heap.size w wr) := HB2.out.trans (HR.out.mono HB2.out.size)
          clear HG2 HR HB2
          refine (tree_any g1 g2 g3 p d1 d2 d3 n m l (fun i => c64 (f0 i)) (fun i => c32 (f1 i)) (fun i => c8 (f2 i)) (fun i => c64 (f3 i)) (fun i => c64 (f4 i)) (fun i => c64 (f5 i)) (fun i => c32 (f6 i)) (fun i => c32 (f7 i)) (c64 x) (c64 y) (c64 z) hl wr (HF.out.below HB3.out)).mono ?_
          rintro e w3 ⟨e1, b1, rfl, G1⟩
          have HG3 : Hid _ := G1
          have HB4 : Hid (Below w.heap.size w w3) := HB3.out.trans (G1.1.mono HB3.out.size)
          clear G1 HB3
          go_wp2_with fail
          go_loopw [40] (fun i wr => ∃ k : Nat, k ≤ l ∧ i = .int .i64 k ∧ Hid (Below w3.heap.size w3 wr)) (fun i _ => l - (intOf i).toNat)
          case atStart => exact ⟨0, Nat.zero_le _, rfl, Below.refl _ _⟩
          case round =>
            obtain ⟨k, hk, rfl, HR⟩ := hrel
            by_cases hlt : k < l
            · have hB : Below w.heap.size w wr := HB4.out.trans (HR.out.mono HB4.out.size)
              obtain ⟨_, _, _, _, _, _, i0⟩ := H.out
              obtain ⟨_, j0⟩ := HG3.out
              rcases i0 with h | ⟨b0, o0, rfl, hb0, hc0⟩
              · omega
              rcases j0 with h | ⟨q0, s0, rfl, hq0, hd0⟩
              · omega
              have hx0 : wr.cell? ⟨b0, o0 + k * 2, none⟩ = some (.int .i32 (f6 k)) := (hB.cell (p := ⟨b0, o0 + k * 2, none⟩) hb0).trans (hc0 k hlt).1
              have hx1 : wr.cell? ⟨b0, o0 + k * 2 + 1, none⟩ = some (.int .i32 (f7 k)) := (hB.cell (p := ⟨b0, o0 + k * 2 + 1, none⟩) hb0).trans (hc0 k hlt).2
              have hy0 : wr.cell? ⟨q0, s0 + k * 2, none⟩ = some (.int .i32 (c32 (f6 k))) := (HR.out.cell (p := ⟨q0, s0 + k * 2, none⟩) hq0).trans (hd0 k hlt).1
              have hy1 : wr.cell? ⟨q0, s0 + k * 2 + 1, none⟩ = some (.int .i32 (c32 (f7 k))) := (HR.out.cell (p := ⟨q0, s0 + k * 2 + 1, none⟩) hq0).trans (hd0 k hlt).2
              have hbl : b0 < wr.heap.size := lt_of_cell hx0
              have hql : q0 < wr.heap.size := lt_of_cell hy0
              clear hc0 hd0 hB hb0 hq0
              have h83 := eq83
              go_wp2_with fail
              go_region
              all_goals
                go_wp2_with fail
                go_quiet (fail)
                go_wp2_with fail
                go_roundw
                case rel => exact ⟨k + 1, by omega, by go_num, below_draws (HR.out.alloc HR.out.size _) _⟩
                case measure => simp [intOf]; omega
            · go_wp2_with fail
              have HB5 : Hid (Below w.heap.size w wr) := HB4.out.trans (HR.out.mono HB4.out.size)
              clear HG3 HR HB4
              refine (counts_any g1 g2 g3 p d1 d2 d3 n m l (fun i => c64 (f0 i)) (fun i => c32 (f1 i)) (fun i => c8 (f2 i)) (fun i => c64 (f3 i)) (fun i => c64 (f4 i)) (fun i => c64 (f5 i)) (fun i => c32 (f6 i)) (fun i => c32 (f7 i)) (c64 x) (c64 y) (c64 z) wr (HF.out.below HB5.out)).mono ?_
              rintro e w4 ⟨rfl, hb4⟩
              have HB6 : Hid (Below w.heap.size w w4) := HB5.out.trans (hb4.mono HB5.out.size)
              clear HB5 hb4
              go_wp2_with fail
              go_ret
              exact ⟨rfl, HB6.out⟩

end Go.Proofs.Qxb6606019a
