import Derived.Test.Qxb6606019aClone
namespace Go.Proofs.Qxb6606019a
open Go.RowKit

theorem one_hE (f g h : Nat → Int) (x : Nat) : (hE f g h x).oneCell' = true := by unfold hE; split; · rfl
                                                                                  split <;> rfl
theorem one_hT (f g : Nat → Int) (x : Nat) : (hT f g x).oneCell' = true := by unfold hT; split <;> rfl
theorem one_hC (f g h : Nat → Int) (x : Nat) : (hC f g h x).oneCell' = true := by
  unfold hC
  split
  · rfl
  split
  · rfl
  split
  · rfl
  split <;> rfl

/-- What (*freedPlaces).clone leaves: the struct, by value; its three slices over new blocks. -/
def Clone31 (n m l : Nat) (f0 f1 f2 f3 f4 f5 f6 f7 : Nat → Int) (x y z : Int) (w : World) (e : Ending) (w' : World) : Prop :=
  ∃ g1 g2 g3 c1 c2 c3, e = .returned (.agg #[.slice (some ⟨g1, 0, none⟩) n c1, .slice (some ⟨g2, 0, none⟩) m c2, .slice (some ⟨g3, 0, none⟩) l c3, .int .i64 x, .int .i64 y, .int .i64 z]) ∧ Below w.heap.size w w' ∧
    w.heap.size ≤ g1 ∧ g1 < g2 ∧ g2 < g3 ∧ g3 < w'.heap.size ∧ (Blk w' g1 (n * 3) ∧ Flat w' g1 (n * 3) (hE f0 f1 f2)) ∧ (Blk w' g2 (m * 5) ∧ Flat w' g2 (m * 5) (hC f3 f4 f5)) ∧ (Blk w' g3 (l * 2) ∧ Flat w' g3 (l * 2) (hT f6 f7))

theorem below_via {B : Nat} {a b c : World} (h : Below B a b) (k : Below b.heap.size b c) (hB : B ≤ b.heap.size) : Below B a c := h.trans (k.mono hB)

theorem wp_abs {P : Program} {c : Code} {Q : Exit → Act → World → Prop} {a : Act} {w : World} (R : World → Prop) (h : R w) (k : ∀ W, R W → Code.wp P c Q a W) : Code.wp P c Q a w := k w h

/-- What the region of the three clones keeps. -/
theorem keep0 {G p : Nat} {W : World} {s0 s1 s2 x y z : Value} (hB : Blk W G 6) (r0 : W.cell? ⟨p, 0, none⟩ = some s0) (r1 : W.cell? ⟨p, 1, none⟩ = some s1) (r2 : W.cell? ⟨p, 2, none⟩ = some s2)
    (q3 : W.cell? ⟨G, 3, none⟩ = some x) (q4 : W.cell? ⟨G, 4, none⟩ = some y) (q5 : W.cell? ⟨G, 5, none⟩ = some z) :
    Kept (fun k => k = G) W W.drew ∧ Blk W.drew G 6 ∧ W.drew.cell? ⟨p, 0, none⟩ = some s0 ∧ W.drew.cell? ⟨p, 1, none⟩ = some s1 ∧ W.drew.cell? ⟨p, 2, none⟩ = some s2 ∧ W.drew.cell? ⟨G, 3, none⟩ = some x ∧ W.drew.cell? ⟨G, 4, none⟩ = some y ∧ W.drew.cell? ⟨G, 5, none⟩ = some z :=
  ⟨(Kept.refl _ _).drew, hB, r0, r1, r2, q3, q4, q5⟩
theorem keep1 {G p : Nat} {W a b : World} {s0 s1 s2 x y z : Value} (hb : Below a.heap.size a b)
    (h : Kept (fun k => k = G) W a ∧ Blk a G 6 ∧ a.cell? ⟨p, 0, none⟩ = some s0 ∧ a.cell? ⟨p, 1, none⟩ = some s1 ∧ a.cell? ⟨p, 2, none⟩ = some s2 ∧ a.cell? ⟨G, 3, none⟩ = some x ∧ a.cell? ⟨G, 4, none⟩ = some y ∧ a.cell? ⟨G, 5, none⟩ = some z) :
    Kept (fun k => k = G) W b ∧ Blk b G 6 ∧ b.cell? ⟨p, 0, none⟩ = some s0 ∧ b.cell? ⟨p, 1, none⟩ = some s1 ∧ b.cell? ⟨p, 2, none⟩ = some s2 ∧ b.cell? ⟨G, 3, none⟩ = some x ∧ b.cell? ⟨G, 4, none⟩ = some y ∧ b.cell? ⟨G, 5, none⟩ = some z := by
  obtain ⟨h1, h2, h3, h4, h5, h6, h7, h8⟩ := h
  have k : Kept (fun _ => False) a b := Kept.of_below hb
  exact ⟨h1.trans (k.mono (fun _ f => f.elim)), k.blk h2 id, k.cell h3 id, k.cell h4 id, k.cell h5 id, k.cell h6 id, k.cell h7 id, k.cell h8 id⟩
theorem keep2 {G p j : Nat} {W a : World} {s0 s1 s2 x y z v : Value} (hp : p ≠ G) (hj : j < 3)
    (h : Kept (fun k => k = G) W a ∧ Blk a G 6 ∧ a.cell? ⟨p, 0, none⟩ = some s0 ∧ a.cell? ⟨p, 1, none⟩ = some s1 ∧ a.cell? ⟨p, 2, none⟩ = some s2 ∧ a.cell? ⟨G, 3, none⟩ = some x ∧ a.cell? ⟨G, 4, none⟩ = some y ∧ a.cell? ⟨G, 5, none⟩ = some z) :
    Kept (fun k => k = G) W (a.setCell ⟨G, j, none⟩ v) ∧ Blk (a.setCell ⟨G, j, none⟩ v) G 6 ∧ (a.setCell ⟨G, j, none⟩ v).cell? ⟨p, 0, none⟩ = some s0 ∧ (a.setCell ⟨G, j, none⟩ v).cell? ⟨p, 1, none⟩ = some s1 ∧ (a.setCell ⟨G, j, none⟩ v).cell? ⟨p, 2, none⟩ = some s2 ∧ (a.setCell ⟨G, j, none⟩ v).cell? ⟨G, 3, none⟩ = some x ∧ (a.setCell ⟨G, j, none⟩ v).cell? ⟨G, 4, none⟩ = some y ∧ (a.setCell ⟨G, j, none⟩ v).cell? ⟨G, 5, none⟩ = some z := by
  obtain ⟨h1, h2, h3, h4, h5, h6, h7, h8⟩ := h
  exact ⟨h1.setCell rfl _, h2.setCell _ _, cell_set' hp h3, cell_set' hp h4, cell_set' hp h5, (cell_set_off (by omega) _).trans h6, (cell_set_off (by omega) _).trans h7, (cell_set_off (by omega) _).trans h8⟩
theorem flat_then {G g s : Nat} {w W a : World} {h : Nat → Value} {R : Prop} (hf : Flat w g s h) (hb : Below w.heap.size w W) (hk : Kept (fun k => k = G) W a ∧ R) (hg : g < w.heap.size ∧ g ≠ G) : Flat a g s h :=
  (hf.below hb hg.1).kept hk.1 hg.2

set_option maxHeartbeats 2000000 in
theorem clone31_any (g1 g2 g3 p c1 c2 c3 n m l : Nat) (f0 f1 f2 f3 f4 f5 f6 f7 : Nat → Int) (x y z : Int) (hn : n ≤ 65536) (hm : m ≤ 65536) (hl : l ≤ 65536) (w : World)
    (F : FP w g1 g2 g3 p c1 c2 c3 n m l f0 f1 f2 f3 f4 f5 f6 f7 x y z) :
    Calls Try.prog 31 #[.pointer (some ⟨p, 0, none⟩)] w (Clone31 n m l f0 f1 f2 f3 f4 f5 f6 f7 x y z w) := by
  have p0 := F.p0
  have p1 := F.p1
  have p2 := F.p2
  have p3 := F.p3
  have p4 := F.p4
  have p5 := F.p5
  have hp := F.bp.lt
  have hp1 : p < w.heap.size + 1 := by omega
  have HG : Hid (g1 < w.heap.size ∧ g2 < w.heap.size ∧ g3 < w.heap.size) := ⟨F.b1.lt, F.b2.lt, F.b3.lt⟩
  have HF : Hid (FP w g1 g2 g3 p c1 c2 c3 n m l f0 f1 f2 f3 f4 f5 f6 f7 x y z) := F
  clear F
  go_enter Try.func31, Try.ntmps31
  go_wp2_with fail
  refine wp_abs (fun W => Below w.heap.size w W ∧ W.heap.size = w.heap.size + 2 ∧ Blk W w.heap.size 6 ∧ Blk W (w.heap.size + 1) 6 ∧ W.cell? ⟨w.heap.size + 1, 3, none⟩ = some (.int .i64 x) ∧ W.cell? ⟨w.heap.size + 1, 4, none⟩ = some (.int .i64 y) ∧ W.cell? ⟨w.heap.size + 1, 5, none⟩ = some (.int .i64 z)) ?_ ?_
  · refine ⟨by go_grown, by simp, ?_, ?_, by simp [go_sem], by simp [go_sem], by simp [go_sem]⟩
    · exact (Blk.made _ _ _ _ (by simp)).alloc _
    · have := Blk.made (w.alloc (.cells #[.slice none 0 0, .slice none 0 0, .slice none 0 0, .int .i64 0, .int .i64 0, .int .i64 0] 77)) #[.slice (some ⟨g1, 0, none⟩) n c1, .slice (some ⟨g2, 0, none⟩) m c2, .slice (some ⟨g3, 0, none⟩) l c3, .int .i64 x, .int .i64 y, .int .i64 z] 77 6 (by simp)
      simpa using this
  rintro W ⟨hb, hz, k0, k1, q3, q4, q5⟩
  obtain ⟨G, hG⟩ : ∃ G, G = w.heap.size + 1 := ⟨_, rfl⟩
  rw [← hG] at k1 q3 q4 q5 ⊢
  have HW : Hid (Below w.heap.size w W ∧ W.heap.size = w.heap.size + 2 ∧ Blk W w.heap.size 6 ∧ Blk W G 6 ∧ G = w.heap.size + 1) := ⟨hb, hz, k0, k1, hG⟩
  have r0 : W.cell? ⟨p, 0, none⟩ = _ := (hb.cell (p := ⟨p, 0, none⟩) hp).trans p0
  have r1 : W.cell? ⟨p, 1, none⟩ = _ := (hb.cell (p := ⟨p, 1, none⟩) hp).trans p1
  have r2 : W.cell? ⟨p, 2, none⟩ = _ := (hb.cell (p := ⟨p, 2, none⟩) hp).trans p2
  have hpG : p ≠ G := by omega
  clear p0 p1 p2 p3 p4 p5 hb hz k0 k1 hG hp1
  go_region_held3 (fun w' => Kept (fun k => k = G) W w' ∧ Blk w' G 6 ∧ w'.cell? ⟨p, 0, none⟩ = some (.slice (some ⟨g1, 0, none⟩) n c1) ∧ w'.cell? ⟨p, 1, none⟩ = some (.slice (some ⟨g2, 0, none⟩) m c2) ∧ w'.cell? ⟨p, 2, none⟩ = some (.slice (some ⟨g3, 0, none⟩) l c3) ∧
      w'.cell? ⟨G, 3, none⟩ = some (.int .i64 x) ∧ w'.cell? ⟨G, 4, none⟩ = some (.int .i64 y) ∧ w'.cell? ⟨G, 5, none⟩ = some (.int .i64 z))
    (first | exact keep0 HW.out.2.2.2.1 r0 r1 r2 q3 q4 q5 | (refine keep1 hb1 ?_; with_reducible assumption) | (refine keep1 hb2 ?_; with_reducible assumption) | (refine keep1 hb3 ?_; with_reducible assumption) | (refine keep2 hpG (by decide) ?_; with_reducible assumption))
    (first
      | (go_at_call 47; refine (clone47_any g1 n c1 _ hn _ (flat_then HF.out.e1 HW.out.1 (by with_reducible assumption) (by have := HG.out; have := HW.out; omega)) (one_hE f0 f1 f2)).mono ?_; rintro e w1 ⟨d1, e1, rfl, hb1, hz1, hB1, hF1⟩)
      | (go_at_call 48; refine (clone48_any g2 m c2 _ hm _ (flat_then HF.out.e2 HW.out.1 (by with_reducible assumption) (by have := HG.out; have := HW.out; omega)) (one_hC f3 f4 f5)).mono ?_; rintro e w2 ⟨d2, e2, rfl, hb2, hz2, hB2, hF2⟩)
      | (go_at_call 49; refine (clone49_any g3 l c3 _ hl _ (flat_then HF.out.e3 HW.out.1 (by with_reducible assumption) (by have := HG.out; have := HW.out; omega)) (one_hT f6 f7)).mono ?_; rintro e w3 ⟨d3, e3, rfl, hb3, hz3, hB3, hF3⟩; have hs3 := (keep1 (W := W) (G := G) (p := p) hb3 (by with_reducible assumption)).2.1; obtain ⟨u0, hu0⟩ := hs3.cell (j := 0) (by decide); obtain ⟨u1, hu1⟩ := hs3.cell (j := 1) (by decide); obtain ⟨u2, hu2⟩ := hs3.cell (j := 2) (by decide); have hy0 := hs3.frozen 0; have hy1 := hs3.frozen 1; have hy2 := hs3.frozen 2; clear hs3))
  have hK : Kept (fun k => k = G) W w3 := by
    have a1 : Kept (fun k => k = G) W w1 := (Kept.refl _ _).drew.trans (Kept.of_below hb1)
    exact (a1.trans (Kept.of_below hb2)).trans (Kept.of_below hb3)
  have hAG : w.heap.size ≠ G := by have := HW.out; omega
  have hA : Blk w3 w.heap.size 6 := hK.blk HW.out.2.2.1 hAG
  obtain ⟨t0, ht0⟩ := hA.cell (j := 0) (by decide)
  obtain ⟨t1, ht1⟩ := hA.cell (j := 1) (by decide)
  obtain ⟨t2, ht2⟩ := hA.cell (j := 2) (by decide)
  obtain ⟨t3, ht3⟩ := hA.cell (j := 3) (by decide)
  obtain ⟨t4, ht4⟩ := hA.cell (j := 4) (by decide)
  obtain ⟨t5, ht5⟩ := hA.cell (j := 5) (by decide)
  have fz0 := hA.frozen 0
  have fz1 := hA.frozen 1
  have fz2 := hA.frozen 2
  have fz3 := hA.frozen 3
  have fz4 := hA.frozen 4
  have fz5 := hA.frozen 5
  go_wp2_with fail
  refine bodyPost_ret (v := .agg #[.slice (some ⟨d1, 0, none⟩) n e1, .slice (some ⟨d2, 0, none⟩) m e2, .slice (some ⟨d3, 0, none⟩) l e3, .int .i64 x, .int .i64 y, .int .i64 z]) ?_ rfl ?_
  · simp [results, Try.results31, go_sem, ht0, ht1, ht2, ht3, ht4, ht5]
  clear hu0 hu1 hu2 hy0 hy1 hy2 ht0 ht1 ht2 ht3 ht4 ht5 fz0 fz1 fz2 fz3 fz4 fz5 q3 q4 q5 r0 r1 r2
  obtain ⟨a1, a2, a3, a4, a5⟩ := HW.out
  have z0 : W.drew.heap.size = W.heap.size := rfl
  have z1 := hB1.lt
  have z2 := hB2.lt
  have z3 := hB3.lt
  have y1 := hb1.size
  have y2 := hb2.size
  have y3 := hb3.size
  have hBel : Below w.heap.size w w3 := ((a1.trans ((Below.refl _ _).drew.trans (hb1.mono (by omega)))).trans (hb2.mono (by omega))).trans (hb3.mono (by omega))
  have n1 : d1 ≠ G := by omega
  have n2 : d2 ≠ G := by omega
  have n3 : d3 ≠ G := by omega
  have m1 : d1 ≠ w.heap.size := by omega
  have m2 : d2 ≠ w.heap.size := by omega
  have m3 : d3 ≠ w.heap.size := by omega
  have F1 : Flat w3 d1 (n * 3) (hE f0 f1 f2) := (hF1.below hb2 (by omega)).below hb3 (by omega)
  have F2 : Flat w3 d2 (m * 5) (hC f3 f4 f5) := hF2.below hb3 (by omega)
  have B1 : Blk w3 d1 (n * 3) := (hB1.below hb2 (by omega)).below hb3 (by omega)
  have B2 : Blk w3 d2 (m * 5) := hB2.below hb3 (by omega)
  have hle : w.heap.size ≤ G := by omega
  have hle0 : w.heap.size ≤ w.heap.size := Nat.le_refl _
  refine ⟨d1, d2, d3, e1, e2, e3, rfl, ?_, by omega, by omega, by omega, ?_, ⟨?_, ?_⟩, ⟨?_, ?_⟩, ⟨?_, ?_⟩⟩
  · repeat (first | with_reducible exact hBel | with_reducible refine Below.setCell ?_ hle0 _ | with_reducible refine Below.setCell ?_ hle _)
  · simp; omega
  · repeat (first | with_reducible exact B1 | with_reducible refine Blk.setCell ?_ _ _)
  · repeat (first | with_reducible exact F1 | with_reducible refine Flat.setOther ?_ m1 _ | with_reducible refine Flat.setOther ?_ n1 _)
  · repeat (first | with_reducible exact B2 | with_reducible refine Blk.setCell ?_ _ _)
  · repeat (first | with_reducible exact F2 | with_reducible refine Flat.setOther ?_ m2 _ | with_reducible refine Flat.setOther ?_ n2 _)
  · repeat (first | with_reducible exact hB3 | with_reducible refine Blk.setCell ?_ _ _)
  · repeat (first | with_reducible exact hF3 | with_reducible refine Flat.setOther ?_ m3 _ | with_reducible refine Flat.setOther ?_ n3 _)

end Go.Proofs.Qxb6606019a
