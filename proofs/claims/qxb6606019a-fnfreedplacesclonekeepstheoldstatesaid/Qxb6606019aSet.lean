import Derived.Test.Qxb6606019aGet2
namespace Go.Proofs.Qxb6606019a
open Go.RowKit

set_option maxHeartbeats 1000000 in
theorem setEntry_any (p g c n k : Nat) (v0 v1 v2 : Int) (_hn : n ≤ 65536) (hk : k < n) (w : World) (hp : w.cell? ⟨p, 0, none⟩ = some (.slice (some ⟨g, 0, none⟩) n c)) (hb : Blk w g (n * 3)) :
    Calls Try.prog 36 #[.pointer (some ⟨p, 0, none⟩), .int .i64 k, .int .i64 v0, .int .i32 v1, .int .i8 v2] w fun e w' => e = .returned (.tuple #[]) ∧
      w' = ((w.setCell ⟨g, k * 3, none⟩ (.int .i64 v0)).setCell ⟨g, k * 3 + 1, none⟩ (.int .i32 v1)).setCell ⟨g, k * 3 + 2, none⟩ (.int .i8 v2) := by
  obtain ⟨u0, hu0⟩ := hb.cell (j := k * 3) (by omega)
  obtain ⟨u1, hu1⟩ := hb.cell (j := k * 3 + 1) (by omega)
  obtain ⟨u2, hu2⟩ := hb.cell (j := k * 3 + 2) (by omega)
  have hf0 := hb.frozen (k * 3)
  have hf1 := hb.frozen (k * 3 + 1)
  have hf2 := hb.frozen (k * 3 + 2)
  clear hb
  go_enter Try.func36, Try.ntmps36
  go_wp2
  go_end0
  exact ⟨rfl, rfl⟩

set_option maxHeartbeats 1000000 in
theorem setTree_any (p g c n k : Nat) (v0 v1 : Int) (_hn : n ≤ 65536) (hk : k < n) (w : World) (hp : w.cell? ⟨p, 2, none⟩ = some (.slice (some ⟨g, 0, none⟩) n c)) (hb : Blk w g (n * 2)) :
    Calls Try.prog 38 #[.pointer (some ⟨p, 0, none⟩), .int .i64 k, .int .i32 v0, .int .i32 v1] w fun e w' => e = .returned (.tuple #[]) ∧
      w' = (w.setCell ⟨g, k * 2, none⟩ (.int .i32 v0)).setCell ⟨g, k * 2 + 1, none⟩ (.int .i32 v1) := by
  obtain ⟨u0, hu0⟩ := hb.cell (j := k * 2) (by omega)
  obtain ⟨u1, hu1⟩ := hb.cell (j := k * 2 + 1) (by omega)
  have hf0 := hb.frozen (k * 2)
  have hf1 := hb.frozen (k * 2 + 1)
  clear hb
  go_enter Try.func38, Try.ntmps38
  go_wp2
  go_end0
  exact ⟨rfl, rfl⟩

set_option maxHeartbeats 1000000 in
theorem setCounts_any (p : Nat) (x y z : Int) (w : World) (hb : Blk w p 6) :
    Calls Try.prog 39 #[.pointer (some ⟨p, 0, none⟩), .int .i64 x, .int .i64 y, .int .i64 z] w fun e w' => e = .returned (.tuple #[]) ∧
      w' = ((w.setCell ⟨p, 3, none⟩ (.int .i64 x)).setCell ⟨p, 4, none⟩ (.int .i64 y)).setCell ⟨p, 5, none⟩ (.int .i64 z) := by
  obtain ⟨u0, hu0⟩ := hb.cell (j := 3) (by omega)
  obtain ⟨u1, hu1⟩ := hb.cell (j := 4) (by omega)
  obtain ⟨u2, hu2⟩ := hb.cell (j := 5) (by omega)
  have hf0 := hb.frozen 3
  have hf1 := hb.frozen 4
  have hf2 := hb.frozen 5
  clear hb
  go_enter Try.func39, Try.ntmps39
  go_wp2
  go_end0
  exact ⟨rfl, rfl⟩

set_option maxHeartbeats 1000000 in
theorem setCont_any (p g c n k : Nat) (v0 v1 v2 : Int) (b0 : -9223372036854775808 ≤ v0) (b1 : v0 ≤ 9223372036854775807) (_hn : n ≤ 65536) (hk : k < n) (w : World) (hp : w.cell? ⟨p, 1, none⟩ = some (.slice (some ⟨g, 0, none⟩) n c)) (hb : Blk w g (n * 5)) :
    Calls Try.prog 37 #[.pointer (some ⟨p, 0, none⟩), .int .i64 k, .int .i64 v0, .int .i64 v1, .int .i64 v2] w fun e w' => e = .returned (.tuple #[]) ∧ ∃ o1 o2 o3 : Obj,
      w' = ((((((((w.setCell ⟨g, k * 5, none⟩ (.int .u64 (v0 % 1000000000))).setCell ⟨g, k * 5 + 1, none⟩ (.int .i64 (v0 / 1000000000))).setCell ⟨g, k * 5 + 2, none⟩ (.pointer none)).setCell ⟨g, k * 5 + 3, none⟩ (.int .i64 v1)).setCell ⟨g, k * 5 + 4, none⟩ (.int .i64 v2)).alloc o1).alloc o2).alloc o3).drew := by
  have hg := hb.lt
  have hg1 : g < w.heap.size + 1 := by omega
  have hg2 : g < w.heap.size + 1 + 1 := by omega
  have hpl := lt_of_cell hp
  have hp1 : p < w.heap.size + 1 := by omega
  have hp2 : p < w.heap.size + 1 + 1 := by omega
  obtain ⟨u0, hu0⟩ := hb.cell (j := k * 5) (by omega)
  obtain ⟨u1, hu1⟩ := hb.cell (j := k * 5 + 1) (by omega)
  obtain ⟨u2, hu2⟩ := hb.cell (j := k * 5 + 2) (by omega)
  obtain ⟨u3, hu3⟩ := hb.cell (j := k * 5 + 3) (by omega)
  obtain ⟨u4, hu4⟩ := hb.cell (j := k * 5 + 4) (by omega)
  have hf0 := hb.frozen (k * 5)
  have hf1 := hb.frozen (k * 5 + 1)
  have hf2 := hb.frozen (k * 5 + 2)
  have hf3 := hb.frozen (k * 5 + 3)
  have hf4 := hb.frozen (k * 5 + 4)
  clear hb
  go_enter Try.func37, Try.ntmps37
  go_wp2_with fail
  go_region_with (go_at_call 28; refine (timeOf_any v0 b0 b1 _).mono ?_; rintro e w' ⟨rfl, rfl⟩)
  all_goals go_wp2
  all_goals go_end0
  all_goals exact ⟨rfl, _, _, _, rfl⟩

/-- Go's '^v' on a signed number, as the walk writes it. -/
def cpl64 (v : Int) : Int := bits .xor .i64 (if IntKind.i64.signed = true then -1 else 9223372036854775807) v
def cpl32 (v : Int) : Int := bits .xor .i32 (if IntKind.i32.signed = true then -1 else IntKind.i32.max) v
def cpl8 (v : Int) : Int := bits .xor .i8 (if IntKind.i8.signed = true then -1 else IntKind.i8.max) v
theorem cpl64_in (v : Int) : -9223372036854775808 ≤ cpl64 v ∧ cpl64 v ≤ 9223372036854775807 := bounds_i64 (wf_bits _ _ _ _)

/-- What zzFlipFreed leaves: the struct's blocks hold the complements; no other block has turned. -/
def Flipped (c64 c32 c8 : Int → Int) (g1 g2 g3 p c1 c2 c3 n m l : Nat) (f0 f1 f2 f3 f4 f5 f6 f7 : Nat → Int) (x y z : Int) (w : World) (e : Ending) (w' : World) : Prop :=
  e = .returned (.tuple #[]) ∧ Kept (fun k => k = g1 ∨ k = g2 ∨ k = g3 ∨ k = p) w w' ∧
    FP w' g1 g2 g3 p c1 c2 c3 n m l (fun i => c64 (f0 i)) (fun i => c32 (f1 i)) (fun i => c8 (f2 i)) (fun i => c64 (f3 i)) (fun i => c64 (f4 i)) (fun i => c64 (f5 i)) (fun i => c32 (f6 i)) (fun i => c32 (f7 i)) (c64 x) (c64 y) (c64 z)

theorem step1 {g n k : Nat} {w a : World} {f0 f1 f2 : Nat → Int} (hK : Kept (fun k => k = g) w a) (hb : Blk a g (n * 3)) (hf : Flat a g (k * 3) (hE f0 f1 f2)) (hk : k < n) :
    Kept (fun k => k = g) w (((a.setCell ⟨g, k * 3, none⟩ (.int .i64 (f0 k))).setCell ⟨g, k * 3 + 1, none⟩ (.int .i32 (f1 k))).setCell ⟨g, k * 3 + 2, none⟩ (.int .i8 (f2 k))) ∧
    Blk (((a.setCell ⟨g, k * 3, none⟩ (.int .i64 (f0 k))).setCell ⟨g, k * 3 + 1, none⟩ (.int .i32 (f1 k))).setCell ⟨g, k * 3 + 2, none⟩ (.int .i8 (f2 k))) g (n * 3) ∧
    Flat (((a.setCell ⟨g, k * 3, none⟩ (.int .i64 (f0 k))).setCell ⟨g, k * 3 + 1, none⟩ (.int .i32 (f1 k))).setCell ⟨g, k * 3 + 2, none⟩ (.int .i8 (f2 k))) g ((k + 1) * 3) (hE f0 f1 f2) :=
  ⟨((hK.setCell rfl _).setCell rfl _).setCell rfl _, ((hb.setCell _ _).setCell _ _).setCell _ _, hf.putE hb hk⟩

theorem step2 {g n k : Nat} {w a : World} {f0 f1 f2 : Nat → Int} (hK : Kept (fun k => k = g) w a) (hb : Blk a g (n * 5)) (hf : Flat a g (k * 5) (hC f0 f1 f2)) (hk : k < n) :
    Kept (fun k => k = g) w (((((a.setCell ⟨g, k * 5, none⟩ (.int .u64 (f0 k % 1000000000))).setCell ⟨g, k * 5 + 1, none⟩ (.int .i64 (f0 k / 1000000000))).setCell ⟨g, k * 5 + 2, none⟩ (.pointer none)).setCell ⟨g, k * 5 + 3, none⟩ (.int .i64 (f1 k))).setCell ⟨g, k * 5 + 4, none⟩ (.int .i64 (f2 k))) ∧
    Blk (((((a.setCell ⟨g, k * 5, none⟩ (.int .u64 (f0 k % 1000000000))).setCell ⟨g, k * 5 + 1, none⟩ (.int .i64 (f0 k / 1000000000))).setCell ⟨g, k * 5 + 2, none⟩ (.pointer none)).setCell ⟨g, k * 5 + 3, none⟩ (.int .i64 (f1 k))).setCell ⟨g, k * 5 + 4, none⟩ (.int .i64 (f2 k))) g (n * 5) ∧
    Flat (((((a.setCell ⟨g, k * 5, none⟩ (.int .u64 (f0 k % 1000000000))).setCell ⟨g, k * 5 + 1, none⟩ (.int .i64 (f0 k / 1000000000))).setCell ⟨g, k * 5 + 2, none⟩ (.pointer none)).setCell ⟨g, k * 5 + 3, none⟩ (.int .i64 (f1 k))).setCell ⟨g, k * 5 + 4, none⟩ (.int .i64 (f2 k))) g ((k + 1) * 5) (hC f0 f1 f2) :=
  ⟨((((hK.setCell rfl _).setCell rfl _).setCell rfl _).setCell rfl _).setCell rfl _, ((((hb.setCell _ _).setCell _ _).setCell _ _).setCell _ _).setCell _ _, hf.putC hb hk⟩
theorem step3 {g n k : Nat} {w a : World} {f0 f1 : Nat → Int} (hK : Kept (fun k => k = g) w a) (hb : Blk a g (n * 2)) (hf : Flat a g (k * 2) (hT f0 f1)) (hk : k < n) :
    Kept (fun k => k = g) w ((a.setCell ⟨g, k * 2, none⟩ (.int .i32 (f0 k))).setCell ⟨g, k * 2 + 1, none⟩ (.int .i32 (f1 k))) ∧
    Blk ((a.setCell ⟨g, k * 2, none⟩ (.int .i32 (f0 k))).setCell ⟨g, k * 2 + 1, none⟩ (.int .i32 (f1 k))) g (n * 2) ∧
    Flat ((a.setCell ⟨g, k * 2, none⟩ (.int .i32 (f0 k))).setCell ⟨g, k * 2 + 1, none⟩ (.int .i32 (f1 k))) g ((k + 1) * 2) (hT f0 f1) :=
  ⟨(hK.setCell rfl _).setCell rfl _, (hb.setCell _ _).setCell _ _, hf.putT hb hk⟩

set_option maxRecDepth 100000 in
set_option maxHeartbeats 2000000 in
theorem flip_gen (c64 c32 c8 : Int → Int) (q64 : ∀ v, bits .xor .i64 (if IntKind.i64.signed = true then -1 else 9223372036854775807) v = c64 v) (q32 : ∀ v, bits .xor .i32 (if IntKind.i32.signed = true then -1 else IntKind.i32.max) v = c32 v) (q8 : ∀ v, bits .xor .i8 (if IntKind.i8.signed = true then -1 else IntKind.i8.max) v = c8 v)
    (r64 : Hid (∀ v, -9223372036854775808 ≤ c64 v ∧ c64 v ≤ 9223372036854775807)) (B g1 g2 g3 p d1 d2 d3 : Nat) (a0 a1 a2 a3 a4 a5 a6 : Option Addr) (c0 c1 c2 c3 c4 c5 c6 n m l : Nat) (f0 f1 f2 f3 f4 f5 f6 f7 h0 h1 h2 h3 h4 h5 h6 h7 : Nat → Int) (x y z x' y' z' : Int) (hn : n ≤ 65536) (hm : m ≤ 65536) (hl : l ≤ 65536) (w : World)
    (i0 : Ints B w a0 .i64 n f0) (i1 : Ints B w a1 .i32 n f1) (i2 : Ints B w a2 .i8 n f2)
    (i3 : Ints B w a3 .i64 m f3) (i4 : Ints B w a4 .i64 m f4) (i5 : Ints B w a5 .i64 m f5) (i6 : Prs B w a6 l f6 f7)
    (F : FP w g1 g2 g3 p d1 d2 d3 n m l h0 h1 h2 h3 h4 h5 h6 h7 x' y' z') (hB : B ≤ g1) (hg12 : g1 < g2) (hg23 : g2 < g3) (hg3p : g3 < p) :
    Calls Try.prog 26 #[.pointer (some ⟨p, 0, none⟩), .slice a0 n c0, .slice a1 n c1, .slice a2 n c2, .slice a3 m c3, .slice a4 m c4, .slice a5 m c5, .slice a6 l c6, .int .i64 x, .int .i64 y, .int .i64 z] w
      (Flipped c64 c32 c8 g1 g2 g3 p d1 d2 d3 n m l f0 f1 f2 f3 f4 f5 f6 f7 x y z w) := by
  have H : Hid (Ints B w a0 .i64 n f0 ∧ Ints B w a1 .i32 n f1 ∧ Ints B w a2 .i8 n f2 ∧ Ints B w a3 .i64 m f3 ∧ Ints B w a4 .i64 m f4 ∧ Ints B w a5 .i64 m f5 ∧ Prs B w a6 l f6 f7) := ⟨i0, i1, i2, i3, i4, i5, i6⟩
  clear i0 i1 i2 i3 i4 i5 i6
  have HF : Hid (FP w g1 g2 g3 p d1 d2 d3 n m l h0 h1 h2 h3 h4 h5 h6 h7 x' y' z') := F
  clear F
  have HL : Hid (B ≤ g1 ∧ g1 < g2 ∧ g2 < g3 ∧ g3 < p) := ⟨hB, hg12, hg23, hg3p⟩
  clear hB hg12 hg23 hg3p
  go_enter Try.func26, Try.ntmps26
  go_wp2_with fail
  go_loopw [22] (fun i wr => ∃ k : Nat, k ≤ n ∧ i = .int .i64 k ∧ Hid (Kept (fun k => k = g1) w wr ∧ Blk wr g1 (n * 3) ∧ Flat wr g1 (k * 3) (hE (fun i => c64 (f0 i)) (fun i => c32 (f1 i)) (fun i => c8 (f2 i))))) (fun i _ => n - (intOf i).toNat)
  case atStart => exact ⟨0, Nat.zero_le _, rfl, Kept.refl _ _, HF.out.b1, fun i hi => by omega⟩
  case round =>
    obtain ⟨k, hk, rfl, HR⟩ := hrel
    by_cases hlt : k < n
    · obtain ⟨i0, i1, i2, _⟩ := H.out
      rcases i0 with h | ⟨b0, o0, rfl, hb0, hc0⟩
      · omega
      rcases i1 with h | ⟨b1, o1, rfl, hb1, hc1⟩
      · omega
      rcases i2 with h | ⟨b2, o2, rfl, hb2, hc2⟩
      · omega
      have hx0 : wr.cell? ⟨b0, o0 + k, none⟩ = some (.int .i64 (f0 k)) := HR.out.1.cell (hc0 k hlt) (by have := HL.out; omega)
      have hx1 : wr.cell? ⟨b1, o1 + k, none⟩ = some (.int .i32 (f1 k)) := HR.out.1.cell (hc1 k hlt) (by have := HL.out; omega)
      have hx2 : wr.cell? ⟨b2, o2 + k, none⟩ = some (.int .i8 (f2 k)) := HR.out.1.cell (hc2 k hlt) (by have := HL.out; omega)
      have hp0 : wr.cell? ⟨p, 0, none⟩ = _ := HR.out.1.cell HF.out.p0 (by have := HL.out; omega)
      have n0 : b0 ≠ g1 := by have := HL.out; omega
      have n1 : b1 ≠ g1 := by have := HL.out; omega
      have n2 : b2 ≠ g1 := by have := HL.out; omega
      clear hc0 hc1 hc2 hb0 hb1 hb2
      go_wp2_with fail
      go_region_held3 (fun w' => w'.cell? ⟨b0, o0 + k, none⟩ = some (.int .i64 (f0 k)) ∧ w'.cell? ⟨b1, o1 + k, none⟩ = some (.int .i32 (f1 k)) ∧ w'.cell? ⟨b2, o2 + k, none⟩ = some (.int .i8 (f2 k)))
        (refine ⟨?_, ?_, ?_⟩ <;> (repeat (first | with_reducible assumption | with_reducible refine cell_drew' ?_ | with_reducible refine cell_alloc' ?_ _ | with_reducible refine cell_set' ?_ ?_)))
        (first | (go_at_call 36; refine (setEntry_any p g1 d1 n k (c64 (f0 k)) (c32 (f1 k)) (c8 (f2 k)) hn hlt wr.drew hp0 HR.out.2.1.drew).mono ?_; rintro e w' ⟨rfl, rfl⟩))
      go_wp2_with fail
      go_roundw
      case rel =>
        obtain ⟨q1, q2, q3⟩ := HR.out
        exact ⟨k + 1, by omega, by go_num, step1 (f0 := fun i => c64 (f0 i)) (f1 := fun i => c32 (f1 i)) (f2 := fun i => c8 (f2 i)) q1.drew q2.drew q3.drew hlt⟩
      case measure => simp [intOf]; omega
    · go_wp2_with fail
      obtain rfl : n = k := by omega
      rename World => w1
      go_loopw [23] (fun i wr => ∃ k : Nat, k ≤ m ∧ i = .int .i64 k ∧ Hid (Kept (fun k => k = g2) w1 wr ∧ Blk wr g2 (m * 5) ∧ Flat wr g2 (k * 5) (hC (fun i => c64 (f3 i)) (fun i => c64 (f4 i)) (fun i => c64 (f5 i))))) (fun i _ => m - (intOf i).toNat)
      case atStart => exact ⟨0, Nat.zero_le _, rfl, Kept.refl _ _, HR.out.1.blk HF.out.b2 (by have := HL.out; omega), fun i hi => by omega⟩
      case round =>
        have HR1 : Hid _ := HR.out
        clear HR
        obtain ⟨k, hk, rfl, HR⟩ := hrel
        by_cases hlt : k < m
        · obtain ⟨_, _, _, i0, i1, i2, _⟩ := H.out
          rcases i0 with h | ⟨b0, o0, rfl, hb0, hc0⟩
          · omega
          rcases i1 with h | ⟨b1, o1, rfl, hb1, hc1⟩
          · omega
          rcases i2 with h | ⟨b2, o2, rfl, hb2, hc2⟩
          · omega
          have hx0 : wr.cell? ⟨b0, o0 + k, none⟩ = some (.int .i64 (f3 k)) := HR.out.1.cell (HR1.out.1.cell (hc0 k hlt) (by have := HL.out; omega)) (by have := HL.out; omega)
          have hx1 : wr.cell? ⟨b1, o1 + k, none⟩ = some (.int .i64 (f4 k)) := HR.out.1.cell (HR1.out.1.cell (hc1 k hlt) (by have := HL.out; omega)) (by have := HL.out; omega)
          have hx2 : wr.cell? ⟨b2, o2 + k, none⟩ = some (.int .i64 (f5 k)) := HR.out.1.cell (HR1.out.1.cell (hc2 k hlt) (by have := HL.out; omega)) (by have := HL.out; omega)
          have hp0 : wr.cell? ⟨p, 1, none⟩ = _ := HR.out.1.cell (HR1.out.1.cell HF.out.p1 (by have := HL.out; omega)) (by have := HL.out; omega)
          have n0 : b0 ≠ g2 := by have := HL.out; omega
          have n1 : b1 ≠ g2 := by have := HL.out; omega
          have n2 : b2 ≠ g2 := by have := HL.out; omega
          clear hc0 hc1 hc2 hb0 hb1 hb2
          go_wp2_with fail
          go_region_held3 (fun w' => w'.cell? ⟨b0, o0 + k, none⟩ = some (.int .i64 (f3 k)) ∧ w'.cell? ⟨b1, o1 + k, none⟩ = some (.int .i64 (f4 k)) ∧ w'.cell? ⟨b2, o2 + k, none⟩ = some (.int .i64 (f5 k)))
            (refine ⟨?_, ?_, ?_⟩ <;> (repeat (first | with_reducible assumption | with_reducible refine cell_drew' ?_ | with_reducible refine cell_alloc' ?_ _ | with_reducible refine cell_set' ?_ ?_)))
            (first | (go_at_call 37; refine (setCont_any p g2 d2 m k (c64 (f3 k)) (c64 (f4 k)) (c64 (f5 k)) (r64.out _).1 (r64.out _).2 hm hlt wr.drew hp0 HR.out.2.1.drew).mono ?_; rintro e w' ⟨rfl, x1, x2, x3, rfl⟩))
          go_wp2_with fail
          go_roundw
          case rel =>
            obtain ⟨q1, q2, q3⟩ := HR.out
            refine ⟨k + 1, by omega, by go_num, ?_⟩
            have R := step2 (f0 := fun i => c64 (f3 i)) (f1 := fun i => c64 (f4 i)) (f2 := fun i => c64 (f5 i)) q1 q2 q3 hlt
            refine ⟨?_, ?_, ?_⟩
            · repeat (first | with_reducible exact R.1 | with_reducible refine Kept.drew ?_ | with_reducible refine Kept.alloc ?_ _)
            · repeat (first | with_reducible exact R.2.1 | with_reducible refine Blk.drew ?_ | with_reducible refine Blk.alloc ?_ _)
            · repeat (first | with_reducible exact R.2.2 | with_reducible refine Flat.drew ?_ | with_reducible refine Flat.alloc ?_ _)
          case measure => simp [intOf]; omega
        · go_wp2_with fail
          obtain rfl : m = k := by omega
          rename World => w2
          go_loopw [24] (fun i wr => ∃ k : Nat, k ≤ l ∧ i = .int .i64 k ∧ Hid (Kept (fun k => k = g3) w2 wr ∧ Blk wr g3 (l * 2) ∧ Flat wr g3 (k * 2) (hT (fun i => c32 (f6 i)) (fun i => c32 (f7 i))))) (fun i _ => l - (intOf i).toNat)
          case atStart => exact ⟨0, Nat.zero_le _, rfl, Kept.refl _ _, HR.out.1.blk (HR1.out.1.blk HF.out.b3 (by have := HL.out; omega)) (by have := HL.out; omega), fun i hi => by omega⟩
          case round =>
            have HR2 : Hid _ := HR.out
            clear HR
            obtain ⟨k, hk, rfl, HR⟩ := hrel
            by_cases hlt : k < l
            · obtain ⟨_, _, _, _, _, _, i0⟩ := H.out
              rcases i0 with h | ⟨b0, o0, rfl, hb0, hc0⟩
              · omega
              have hx0 : wr.cell? ⟨b0, o0 + k * 2, none⟩ = some (.int .i32 (f6 k)) := HR.out.1.cell (HR2.out.1.cell (HR1.out.1.cell (hc0 k hlt).1 (by have := HL.out; omega)) (by have := HL.out; omega)) (by have := HL.out; omega)
              have hx1 : wr.cell? ⟨b0, o0 + k * 2 + 1, none⟩ = some (.int .i32 (f7 k)) := HR.out.1.cell (HR2.out.1.cell (HR1.out.1.cell (hc0 k hlt).2 (by have := HL.out; omega)) (by have := HL.out; omega)) (by have := HL.out; omega)
              have hp0 : wr.cell? ⟨p, 2, none⟩ = _ := HR.out.1.cell (HR2.out.1.cell (HR1.out.1.cell HF.out.p2 (by have := HL.out; omega)) (by have := HL.out; omega)) (by have := HL.out; omega)
              have n0 : b0 ≠ g3 := by have := HL.out; omega
              clear hc0 hb0
              go_wp2_with fail
              go_region_held3 (fun w' => w'.cell? ⟨b0, o0 + k * 2, none⟩ = some (.int .i32 (f6 k)) ∧ w'.cell? ⟨b0, o0 + k * 2 + 1, none⟩ = some (.int .i32 (f7 k)))
                (refine ⟨?_, ?_⟩ <;> (repeat (first | with_reducible assumption | with_reducible refine cell_drew' ?_ | with_reducible refine cell_alloc' ?_ _ | with_reducible refine cell_set' ?_ ?_)))
                (first | (go_at_call 38; refine (setTree_any p g3 d3 l k (c32 (f6 k)) (c32 (f7 k)) hl hlt wr.drew hp0 HR.out.2.1.drew).mono ?_; rintro e w' ⟨rfl, rfl⟩))
              go_wp2_with fail
              go_roundw
              case rel =>
                obtain ⟨q1, q2, q3⟩ := HR.out
                refine ⟨k + 1, by omega, by go_num, ?_⟩
                have R := step3 (f0 := fun i => c32 (f6 i)) (f1 := fun i => c32 (f7 i)) q1 q2 q3 hlt
                refine ⟨?_, ?_, ?_⟩
                · repeat (first | with_reducible exact R.1 | with_reducible refine Kept.drew ?_ | with_reducible refine Kept.alloc ?_ _)
                · repeat (first | with_reducible exact R.2.1 | with_reducible refine Blk.drew ?_ | with_reducible refine Blk.alloc ?_ _)
                · repeat (first | with_reducible exact R.2.2 | with_reducible refine Flat.drew ?_ | with_reducible refine Flat.alloc ?_ _)
              case measure => simp [intOf]; omega
            · go_wp2_with fail
              obtain rfl : l = k := by omega
              have hbp : Blk wr p 6 := HR.out.1.blk (HR2.out.1.blk (HR1.out.1.blk HF.out.bp (by have := HL.out; omega)) (by have := HL.out; omega)) (by have := HL.out; omega)
              refine (setCounts_any p (c64 x) (c64 y) (c64 z) wr hbp).mono ?_
              rintro e w' ⟨rfl, rfl⟩
              go_wp2_with fail
              go_end0
              have hL := HL.out
              obtain ⟨s1, s2, s3⟩ := HR1.out
              obtain ⟨t1, t2, t3⟩ := HR2.out
              obtain ⟨q1, q2, q3⟩ := HR.out
              have K1 : Kept (fun k => k = g1 ∨ k = g2 ∨ k = g3 ∨ k = p) w wr := ((s1.mono (fun k e => .inl e)).trans (t1.mono (fun k e => .inr (.inl e)))).trans (q1.mono (fun k e => .inr (.inr (.inl e))))
              have cp : ∀ o v, w.cell? ⟨p, o, none⟩ = some v → wr.cell? ⟨p, o, none⟩ = some v := fun o v h => q1.cell (t1.cell (s1.cell h (by omega)) (by omega)) (by omega)
              have F := HF.out
              have m1 : g1 ≠ p := by omega
              have m2 : g2 ≠ p := by omega
              have m3 : g3 ≠ p := by omega
              have B1 : Blk wr g1 (n * 3) := q1.blk (t1.blk s2 (by omega)) (by omega)
              have B2 : Blk wr g2 (m * 5) := q1.blk t2 (by omega)
              have E1 := (s3.kept t1 (by omega)).kept q1 (show ¬ g1 = g3 by omega)
              have E2 := t3.kept q1 (show ¬ g2 = g3 by omega)
              refine ⟨rfl, ((K1.setCell (.inr (.inr (.inr rfl))) _).setCell (.inr (.inr (.inr rfl))) _).setCell (.inr (.inr (.inr rfl))) _, ?_⟩
              exact { b1 := ((B1.setCell _ _).setCell _ _).setCell _ _, b2 := ((B2.setCell _ _).setCell _ _).setCell _ _, b3 := ((q2.setCell _ _).setCell _ _).setCell _ _, bp := ((hbp.setCell _ _).setCell _ _).setCell _ _,
                      e1 := ((E1.setOther m1 _).setOther m1 _).setOther m1 _, e2 := ((E2.setOther m2 _).setOther m2 _).setOther m2 _, e3 := ((q3.setOther m3 _).setOther m3 _).setOther m3 _,
                      p0 := (cell_set_off (by omega) _).trans ((cell_set_off (by omega) _).trans ((cell_set_off (by omega) _).trans (cp _ _ F.p0))),
                      p1 := (cell_set_off (by omega) _).trans ((cell_set_off (by omega) _).trans ((cell_set_off (by omega) _).trans (cp _ _ F.p1))),
                      p2 := (cell_set_off (by omega) _).trans ((cell_set_off (by omega) _).trans ((cell_set_off (by omega) _).trans (cp _ _ F.p2))),
                      p3 := (cell_set_off (by omega) _).trans ((cell_set_off (by omega) _).trans (cell_set_same hbp (by omega) _)),
                      p4 := (cell_set_off (by omega) _).trans (cell_set_same (hbp.setCell _ _) (by omega) _),
                      p5 := cell_set_same ((hbp.setCell _ _).setCell _ _) (by omega) _ }

end Go.Proofs.Qxb6606019a
