import Derived.Test.Qxb6606019aGet
namespace Go.Proofs.Qxb6606019a
open Go.RowKit

/-- Three slices of numbers handed back, in new memory. -/
def Got3 (k1 k2 k3 : IntKind) (n : Nat) (f g h : Nat → Int) (w : World) (e : Ending) (w' : World) : Prop :=
  ∃ a1 a2 a3 c1 c2 c3, e = .returned (.tuple #[.slice a1 n c1, .slice a2 n c2, .slice a3 n c3]) ∧ Below w.heap.size w w' ∧ Ints w'.heap.size w' a1 k1 n f ∧ Ints w'.heap.size w' a2 k2 n g ∧ Ints w'.heap.size w' a3 k3 n h

theorem ints_of_flat {w : World} {g n : Nat} {k : IntKind} {f : Nat → Int} (hb : Blk w g n) (h : Flat w g n (fun i => .int k (f i))) : Ints w.heap.size w (some ⟨g, 0, none⟩) k n f :=
  .inr ⟨g, 0, rfl, hb.lt, fun i hi => by rw [Nat.zero_add]; exact h i hi⟩

theorem made3 (w : World) (c1 c2 c3 : Array Value) (t1 t2 t3 : TypeId) (n : Nat) (h1 : n ≤ c1.size) (h2 : n ≤ c2.size) (h3 : n ≤ c3.size) :
    Blk (((w.alloc (.cells c1 t1)).alloc (.cells c2 t2)).alloc (.cells c3 t3)) w.heap.size n ∧ Blk (((w.alloc (.cells c1 t1)).alloc (.cells c2 t2)).alloc (.cells c3 t3)) (w.heap.size + 1) n ∧
      Blk (((w.alloc (.cells c1 t1)).alloc (.cells c2 t2)).alloc (.cells c3 t3)) (w.heap.size + 1 + 1) n := by
  have a2 := Blk.made (w.alloc (.cells c1 t1)) c2 t2 n h2
  have a3 := Blk.made ((w.alloc (.cells c1 t1)).alloc (.cells c2 t2)) c3 t3 n h3
  rw [World.size_alloc] at a2
  rw [World.size_alloc, World.size_alloc] at a3
  exact ⟨((Blk.made _ _ _ _ h1).alloc _).alloc _, a2.alloc _, a3⟩

theorem put3 {w : World} {A B C k n : Nat} {h1 h2 h3 : Nat → Value} (ab : A ≠ B) (ac : A ≠ C) (bc : B ≠ C) (hk : k < n) (b1 : Blk w A n) (f1 : Flat w A k h1) (b2 : Blk w B n) (f2 : Flat w B k h2) (b3 : Blk w C n) (f3 : Flat w C k h3) :
    (Blk (((w.setCell ⟨A, k, none⟩ (h1 k)).setCell ⟨B, k, none⟩ (h2 k)).setCell ⟨C, k, none⟩ (h3 k)) A n ∧ Flat (((w.setCell ⟨A, k, none⟩ (h1 k)).setCell ⟨B, k, none⟩ (h2 k)).setCell ⟨C, k, none⟩ (h3 k)) A (k + 1) h1) ∧
    (Blk (((w.setCell ⟨A, k, none⟩ (h1 k)).setCell ⟨B, k, none⟩ (h2 k)).setCell ⟨C, k, none⟩ (h3 k)) B n ∧ Flat (((w.setCell ⟨A, k, none⟩ (h1 k)).setCell ⟨B, k, none⟩ (h2 k)).setCell ⟨C, k, none⟩ (h3 k)) B (k + 1) h2) ∧
    (Blk (((w.setCell ⟨A, k, none⟩ (h1 k)).setCell ⟨B, k, none⟩ (h2 k)).setCell ⟨C, k, none⟩ (h3 k)) C n ∧ Flat (((w.setCell ⟨A, k, none⟩ (h1 k)).setCell ⟨B, k, none⟩ (h2 k)).setCell ⟨C, k, none⟩ (h3 k)) C (k + 1) h3) :=
  ⟨⟨((b1.setCell _ _).setCell _ _).setCell _ _, ((f1.put b1 hk rfl).setOther ab _).setOther ac _⟩,
   ⟨((b2.setCell _ _).setCell _ _).setCell _ _, ((f2.setOther ab.symm _).put (b2.setCell _ _) hk rfl).setOther bc _⟩,
   ⟨((b3.setCell _ _).setCell _ _).setCell _ _, ((f3.setOther ac.symm _).setOther bc.symm _).put ((b3.setCell _ _).setCell _ _) hk rfl⟩⟩

set_option maxHeartbeats 2000000 in
theorem entries_any (g1 g2 g3 p c1 c2 c3 n m l : Nat) (f0 f1 f2 f3 f4 f5 f6 f7 : Nat → Int) (x y z : Int) (hn : n ≤ 65536) (w : World)
    (F : FP w g1 g2 g3 p c1 c2 c3 n m l f0 f1 f2 f3 f4 f5 f6 f7 x y z) :
    Calls Try.prog 32 #[.pointer (some ⟨p, 0, none⟩)] w (Got3 .i64 .i32 .i8 n f0 f1 f2 w) := by
  have p0 := F.p0
  have hp := F.bp.lt
  have hp1 : p < w.heap.size + 1 := by omega
  have hp2 : p < w.heap.size + 1 + 1 := by omega
  have HF : Hid (Flat w g1 (n * 3) (hE f0 f1 f2) ∧ p < w.heap.size ∧ g1 < w.heap.size ∧ w.cell? ⟨p, 0, none⟩ = some (.slice (some ⟨g1, 0, none⟩) n c1)) := ⟨F.e1, F.bp.lt, F.b1.lt, F.p0⟩
  clear F
  have hm1 := make_row 49 3 _ _ _ Try.underlying49 Try.info3 n (by omega) (by omega)
  have hm2 := make_row 50 21 _ _ _ Try.underlying50 Try.info21 n (by omega) (by omega)
  have hm3 := make_row 51 82 _ _ _ Try.underlying51 Try.info82 n (by omega) (by omega)
  go_enter Try.func32, Try.ntmps32
  go_wp2
  clear hm1 hm2 hm3 p0 hp hp1 hp2
  go_loopw [29] (fun i wr => ∃ k : Nat, k ≤ n ∧ i = .int .i64 k ∧ Hid (Below w.heap.size w wr ∧ (Blk wr w.heap.size n ∧ Flat wr w.heap.size k (fun i => .int .i64 (f0 i))) ∧ (Blk wr (w.heap.size + 1) n ∧ Flat wr (w.heap.size + 1) k (fun i => .int .i32 (f1 i))) ∧ (Blk wr (w.heap.size + 1 + 1) n ∧ Flat wr (w.heap.size + 1 + 1) k (fun i => .int .i8 (f2 i))))) (fun i _ => n - (intOf i).toNat)
  case atStart =>
    obtain ⟨m1, m2, m3⟩ := made3 w (madeCells #[.int .i64 0] n) (madeCells #[.int .i32 0] n) (madeCells #[.int .i8 0] n) 3 21 82 n (by rw [size_madeCells]; omega) (by rw [size_madeCells]; omega) (by rw [size_madeCells]; omega)
    exact ⟨0, Nat.zero_le _, rfl, by go_grown, ⟨m1, fun i hi => by omega⟩, ⟨m2, fun i hi => by omega⟩, ⟨m3, fun i hi => by omega⟩⟩
  case round =>
    obtain ⟨k, hk, rfl, HR⟩ := hrel
    by_cases hlt : k < n
    · obtain ⟨hF, hp, hg, hc⟩ := HF.out
      have r0 : wr.cell? ⟨p, 0, none⟩ = _ := (HR.out.1.cell (p := ⟨p, 0, none⟩) hp).trans hc
      obtain ⟨e0, e1, e2⟩ := (hF.below HR.out.1 hg).getE hlt
      obtain ⟨v0, hv0⟩ := HR.out.2.1.1.cell hlt
      obtain ⟨v1, hv1⟩ := HR.out.2.2.1.1.cell hlt
      obtain ⟨v2, hv2⟩ := HR.out.2.2.2.1.cell hlt
      have hf0 := HR.out.2.1.1.frozen k
      have hf1 := HR.out.2.2.1.1.frozen k
      have hf2 := HR.out.2.2.2.1.frozen k
      have d0 : p ≠ w.heap.size := by omega
      have d1 : p ≠ w.heap.size + 1 := by omega
      have d2 : g1 ≠ w.heap.size := by omega
      have d3 : g1 ≠ w.heap.size + 1 := by omega
      clear hc hF
      go_wp2
      go_roundw
      case rel =>
        obtain ⟨h1, ⟨h2, h3⟩, ⟨h4, h5⟩, ⟨h6, h7⟩⟩ := HR.out
        have R := put3 (h1 := fun i => .int .i64 (f0 i)) (h2 := fun i => .int .i32 (f1 i)) (h3 := fun i => .int .i8 (f2 i)) (show w.heap.size ≠ w.heap.size + 1 by omega) (show w.heap.size ≠ w.heap.size + 1 + 1 by omega) (show w.heap.size + 1 ≠ w.heap.size + 1 + 1 by omega) hlt h2 h3 h4 h5 h6 h7
        refine ⟨k + 1, by omega, by go_num, ?_, R⟩
        exact ((h1.setCell (Nat.le_refl _) _).setCell (show w.heap.size ≤ w.heap.size + 1 by omega) _).setCell (show w.heap.size ≤ w.heap.size + 1 + 1 by omega) _
      case measure => simp [intOf]; omega
    · go_wp2
      go_ret3
      obtain rfl : n = k := by omega
      obtain ⟨h1, ⟨h2, h3⟩, ⟨h4, h5⟩, ⟨h6, h7⟩⟩ := HR.out
      exact ⟨_, _, _, _, _, _, rfl, h1, ints_of_flat h2 h3, ints_of_flat h4 h5, ints_of_flat h6 h7⟩
set_option maxHeartbeats 2000000 in
theorem conts_any (g1 g2 g3 p c1 c2 c3 n m l : Nat) (f0 f1 f2 f3 f4 f5 f6 f7 : Nat → Int) (x y z : Int) (hm : m ≤ 65536) (r3 : Hid (∀ i, i < m → -9223372036854775808 ≤ f3 i ∧ f3 i ≤ 9223372036854775807)) (w : World)
    (F : FP w g1 g2 g3 p c1 c2 c3 n m l f0 f1 f2 f3 f4 f5 f6 f7 x y z) :
    Calls Try.prog 33 #[.pointer (some ⟨p, 0, none⟩)] w (Got3 .i64 .i64 .i64 m f3 f4 f5 w) := by
  have p0 := F.p1
  have hp := F.bp.lt
  have hp1 : p < w.heap.size + 1 := by omega
  have hp2 : p < w.heap.size + 1 + 1 := by omega
  have HF : Hid (Flat w g2 (m * 5) (hC f3 f4 f5) ∧ p < w.heap.size ∧ g2 < w.heap.size ∧ w.cell? ⟨p, 1, none⟩ = some (.slice (some ⟨g2, 0, none⟩) m c2)) := ⟨F.e2, F.bp.lt, F.b2.lt, F.p1⟩
  clear F
  have hm1 := make_row 52 2 _ _ _ Try.underlying52 Try.info2 m (by omega) (by omega)
  have hm2 := make_row 49 3 _ _ _ Try.underlying49 Try.info3 m (by omega) (by omega)
  go_enter Try.func33, Try.ntmps33
  go_wp2
  clear hm1 hm2 p0 hp hp1 hp2
  go_loopw [29] (fun i wr => ∃ k : Nat, k ≤ m ∧ i = .int .i64 k ∧ Hid (Below w.heap.size w wr ∧ (Blk wr w.heap.size m ∧ Flat wr w.heap.size k (fun i => .int .i64 (f3 i))) ∧ (Blk wr (w.heap.size + 1) m ∧ Flat wr (w.heap.size + 1) k (fun i => .int .i64 (f4 i))) ∧ (Blk wr (w.heap.size + 1 + 1) m ∧ Flat wr (w.heap.size + 1 + 1) k (fun i => .int .i64 (f5 i))))) (fun i _ => m - (intOf i).toNat)
  case atStart =>
    obtain ⟨m1, m2, m3⟩ := made3 w (madeCells #[.int .i64 0] m) (madeCells #[.int .i64 0] m) (madeCells #[.int .i64 0] m) 2 3 3 m (by rw [size_madeCells]; omega) (by rw [size_madeCells]; omega) (by rw [size_madeCells]; omega)
    exact ⟨0, Nat.zero_le _, rfl, by go_grown, ⟨m1, fun i hi => by omega⟩, ⟨m2, fun i hi => by omega⟩, ⟨m3, fun i hi => by omega⟩⟩
  case round =>
    obtain ⟨k, hk, rfl, HR⟩ := hrel
    by_cases hlt : k < m
    · obtain ⟨hF, hp, hg, hc⟩ := HF.out
      have r0 : wr.cell? ⟨p, 1, none⟩ = _ := (HR.out.1.cell (p := ⟨p, 1, none⟩) hp).trans hc
      obtain ⟨e0, e1, e2, e3, e4⟩ := (hF.below HR.out.1 hg).getC hlt
      have d0 : p ≠ w.heap.size := by omega
      have d1 : p ≠ w.heap.size + 1 := by omega
      have d2 : g2 ≠ w.heap.size := by omega
      have d3 : g2 ≠ w.heap.size + 1 := by omega
      have HC : Hid (Flat w g2 (m * 5) (hC f3 f4 f5) ∧ w.cell? ⟨p, 1, none⟩ = some (.slice (some ⟨g2, 0, none⟩) m c2)) := ⟨hF, hc⟩
      clear hc hF
      go_wp2_with fail
      refine (nanosOf_any (f3 k) (r3.out k hlt).1 (r3.out k hlt).2 _).mono ?_
      rintro e w1 ⟨rfl, hb1⟩
      clear r0 e0 e1 e2 e3 e4
      obtain ⟨h1, ⟨h2, h3⟩, ⟨h4, h5⟩, ⟨h6, h7⟩⟩ := HR.out
      have H1 : Hid (Below w.heap.size w w1 ∧ (Blk w1 w.heap.size m ∧ Flat w1 w.heap.size k (fun i => .int .i64 (f3 i))) ∧ (Blk w1 (w.heap.size + 1) m ∧ Flat w1 (w.heap.size + 1) k (fun i => .int .i64 (f4 i))) ∧ (Blk w1 (w.heap.size + 1 + 1) m ∧ Flat w1 (w.heap.size + 1 + 1) k (fun i => .int .i64 (f5 i)))) :=
        ⟨h1.trans (hb1.mono h1.size), ⟨h2.below hb1 h2.lt, h3.below hb1 h2.lt⟩, ⟨h4.below hb1 h4.lt, h5.below hb1 h4.lt⟩, ⟨h6.below hb1 h6.lt, h7.below hb1 h6.lt⟩⟩
      clear h1 h2 h3 h4 h5 h6 h7 hb1
      have r0 : w1.cell? ⟨p, 1, none⟩ = _ := (H1.out.1.cell (p := ⟨p, 1, none⟩) hp).trans HC.out.2
      obtain ⟨e0, e1, e2, e3, e4⟩ := (HC.out.1.below H1.out.1 hg).getC hlt
      clear e0 e1 e2
      obtain ⟨v0, hv0⟩ := H1.out.2.1.1.cell hlt
      obtain ⟨v1, hv1⟩ := H1.out.2.2.1.1.cell hlt
      obtain ⟨v2, hv2⟩ := H1.out.2.2.2.1.cell hlt
      have hf0 := H1.out.2.1.1.frozen k
      have hf1 := H1.out.2.2.1.1.frozen k
      have hf2 := H1.out.2.2.2.1.frozen k
      go_wp2
      go_roundw
      case rel =>
        obtain ⟨h1, ⟨h2, h3⟩, ⟨h4, h5⟩, ⟨h6, h7⟩⟩ := H1.out
        have R := put3 (h1 := fun i => .int .i64 (f3 i)) (h2 := fun i => .int .i64 (f4 i)) (h3 := fun i => .int .i64 (f5 i)) (show w.heap.size ≠ w.heap.size + 1 by omega) (show w.heap.size ≠ w.heap.size + 1 + 1 by omega) (show w.heap.size + 1 ≠ w.heap.size + 1 + 1 by omega) hlt h2 h3 h4 h5 h6 h7
        refine ⟨k + 1, by omega, by go_num, ?_, R⟩
        exact ((h1.setCell (Nat.le_refl _) _).setCell (show w.heap.size ≤ w.heap.size + 1 by omega) _).setCell (show w.heap.size ≤ w.heap.size + 1 + 1 by omega) _
      case measure => simp [intOf]; omega
    · go_wp2
      go_ret3
      obtain rfl : m = k := by omega
      obtain ⟨h1, ⟨h2, h3⟩, ⟨h4, h5⟩, ⟨h6, h7⟩⟩ := HR.out
      exact ⟨_, _, _, _, _, _, rfl, h1, ints_of_flat h2 h3, ints_of_flat h4 h5, ints_of_flat h6 h7⟩

set_option maxHeartbeats 2000000 in
theorem tree_any (g1 g2 g3 p c1 c2 c3 n m l : Nat) (f0 f1 f2 f3 f4 f5 f6 f7 : Nat → Int) (x y z : Int) (hl : l ≤ 65536) (w : World)
    (F : FP w g1 g2 g3 p c1 c2 c3 n m l f0 f1 f2 f3 f4 f5 f6 f7 x y z) :
    Calls Try.prog 34 #[.pointer (some ⟨p, 0, none⟩)] w (Copied2 l f6 f7 w) := by
  have p0 := F.p2
  have hp := F.bp.lt
  have HF : Hid (Flat w g3 (l * 2) (hT f6 f7) ∧ p < w.heap.size ∧ g3 < w.heap.size ∧ w.cell? ⟨p, 2, none⟩ = some (.slice (some ⟨g3, 0, none⟩) l c3)) := ⟨F.e3, F.bp.lt, F.b3.lt, F.p2⟩
  clear F
  have hm1 := make_row 53 83 _ _ _ Try.underlying53 Try.info83 l (by omega) (by omega)
  go_enter Try.func34, Try.ntmps34
  go_wp2
  clear hm1 p0 hp
  go_loopw [16] (fun i wr => ∃ k : Nat, k ≤ l ∧ i = .int .i64 k ∧ Hid (Below w.heap.size w wr ∧ Blk wr w.heap.size (l * 2) ∧ Flat wr w.heap.size (k * 2) (hT f6 f7))) (fun i _ => l - (intOf i).toNat)
  case atStart => exact ⟨0, Nat.zero_le _, rfl, (Below.refl _ _).alloc (Nat.le_refl _) _, Blk.made _ _ _ _ (by simp [size_madeCells]), fun i hi => by omega⟩
  case round =>
    obtain ⟨k, hk, rfl, HR⟩ := hrel
    by_cases hlt : k < l
    · obtain ⟨hF, hp, hg, hc⟩ := HF.out
      have r0 : wr.cell? ⟨p, 2, none⟩ = _ := (HR.out.1.cell (p := ⟨p, 2, none⟩) hp).trans hc
      obtain ⟨e0, e1⟩ := (hF.below HR.out.1 hg).getT hlt
      clear hc hF
      obtain ⟨v0, hv0⟩ := HR.out.2.1.cell (j := k * 2) (by omega)
      obtain ⟨v1, hv1⟩ := HR.out.2.1.cell (j := k * 2 + 1) (by omega)
      have hf0 := HR.out.2.1.frozen (k * 2)
      have hf1 := HR.out.2.1.frozen (k * 2 + 1)
      go_wp2
      go_region
      all_goals
        go_wp2
        go_roundw
        case rel => exact ⟨k + 1, by omega, by go_num, ((HR.out.1.setCell (Nat.le_refl _) _).setCell (Nat.le_refl _) _).drew, ((HR.out.2.1.setCell _ _).setCell _ _).drew, (HR.out.2.2.putT HR.out.2.1 hlt).drew⟩
        case measure => simp [intOf]; omega
    · go_wp2
      go_ret
      obtain rfl : l = k := by omega
      refine ⟨_, _, rfl, HR.out.1, .inr ⟨_, 0, rfl, HR.out.2.1.lt, fun i hi => ?_⟩⟩
      rw [Nat.zero_add]
      exact HR.out.2.2.getT hi

end Go.Proofs.Qxb6606019a
