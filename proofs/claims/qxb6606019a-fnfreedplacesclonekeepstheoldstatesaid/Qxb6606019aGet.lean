import Derived.Test.Qxb6606019aClone2
namespace Go.Proofs.Qxb6606019a
open Go.RowKit

/-- ZZCloneFreedPlaces. -/
theorem clone24_any (g1 g2 g3 p c1 c2 c3 n m l : Nat) (f0 f1 f2 f3 f4 f5 f6 f7 : Nat → Int) (x y z : Int) (hn : n ≤ 65536) (hm : m ≤ 65536) (hl : l ≤ 65536) (w : World)
    (F : FP w g1 g2 g3 p c1 c2 c3 n m l f0 f1 f2 f3 f4 f5 f6 f7 x y z) :
    Calls Try.prog 24 #[.pointer (some ⟨p, 0, none⟩)] w (Made n m l f0 f1 f2 f3 f4 f5 f6 f7 x y z w) := by
  have HF : Hid (FP w g1 g2 g3 p c1 c2 c3 n m l f0 f1 f2 f3 f4 f5 f6 f7 x y z) := F
  clear F
  go_enter Try.func24, Try.ntmps24
  go_wp2_with fail
  refine (clone31_any g1 g2 g3 p c1 c2 c3 n m l f0 f1 f2 f3 f4 f5 f6 f7 x y z hn hm hl _ HF.out).mono ?_
  rintro e w1 ⟨d1, d2, d3, e1, e2, e3, rfl, H⟩
  have HH : Hid _ := H
  clear H
  go_wp2_with fail
  go_ret
  obtain ⟨h1, h2, h3, h4, h5, ⟨h6, h7⟩, ⟨h8, h9⟩, ⟨h10, h11⟩⟩ := HH.out
  have hs := h1.size
  refine ⟨d1, d2, d3, w1.heap.size, e1, e2, e3, rfl, h1.alloc hs _, h2, h3, h4, h5, ?_⟩
  exact { b1 := h6.alloc _, b2 := h8.alloc _, b3 := h10.alloc _, bp := Blk.made _ _ _ 6 (by simp), e1 := h7.alloc _, e2 := h9.alloc _, e3 := h11.alloc _, p0 := by simp [go_sem], p1 := by simp [go_sem], p2 := by simp [go_sem], p3 := by simp [go_sem], p4 := by simp [go_sem], p5 := by simp [go_sem] }

/-- zzNanosOf of the moment that zzTimeOf makes. -/
theorem nanosOf_any (v : Int) (v0 : -9223372036854775808 ≤ v) (v1 : v ≤ 9223372036854775807) (w : World) :
    Calls Try.prog 50 #[.agg #[.int .u64 (v % 1000000000), .int .i64 (v / 1000000000), .pointer none]] w fun e w' => e = .returned (.int .i64 v) ∧ Below w.heap.size w w' := by
  obtain ⟨n, hn⟩ : ∃ n, v % 1000000000 = n := ⟨_, rfl⟩
  obtain ⟨s, hs⟩ : ∃ s, v / 1000000000 = s := ⟨_, rfl⟩
  rw [hn, hs]
  have k0 : 0 ≤ n := by omega
  have k1 : n < 1000000000 := by omega
  have K2 : Hid (sat ((s - 0) * 1000000000 + (n - 0)) = v) := by
    show _ = _
    unfold sat
    rw [if_neg (by omega), if_neg (by omega)]
    omega
  have k3 : -10000000000 ≤ s := by omega
  have k4 : s ≤ 10000000000 := by omega
  clear hn hs
  go_enter Try.func50, Try.ntmps50
  go_wp2_with fail
  refine (sub_any n s 0 0 k0 k1 (by omega) (by omega) k3 k4 (by omega) (by omega) _).mono ?_
  rintro e w' ⟨rfl, hb⟩
  rw [K2.out]
  go_wp2_with fail
  go_ret
  exact ⟨rfl, ((Below.refl _ _).alloc (Nat.le_refl _) _).trans (hb.mono (by simp))⟩

/-- ZZFreedCounts. -/
theorem counts_any (g1 g2 g3 p c1 c2 c3 n m l : Nat) (f0 f1 f2 f3 f4 f5 f6 f7 : Nat → Int) (x y z : Int) (w : World)
    (F : FP w g1 g2 g3 p c1 c2 c3 n m l f0 f1 f2 f3 f4 f5 f6 f7 x y z) :
    Calls Try.prog 35 #[.pointer (some ⟨p, 0, none⟩)] w fun e w' => e = .returned (.tuple #[.int .i64 x, .int .i64 y, .int .i64 z]) ∧ Below w.heap.size w w' := by
  have p3 := F.p3
  have p4 := F.p4
  have p5 := F.p5
  clear F
  go_enter Try.func35, Try.ntmps35
  go_wp2_with fail
  go_quiet (fail)
  go_wp2
  go_ret3
  exact ⟨rfl, ⟨rfl, rfl, rfl, Nat.le_refl _, fun _ _ => rfl⟩⟩
end Go.Proofs.Qxb6606019a
