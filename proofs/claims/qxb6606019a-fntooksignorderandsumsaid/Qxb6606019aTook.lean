import Derived.Test.Qxb6606019aSub2
import Derived.Deep.RegionWith
import Derived.BigQuiet
namespace Go.Proofs.Qxb6606019a
open Go.RowKit

/-- ZZNewTestAt: a new Test whose Start and End are the two moments. -/
theorem newTest_any (a b : Int) (a0 : -9223372036854775808 ≤ a) (a1 : a ≤ 9223372036854775807) (b0 : -9223372036854775808 ≤ b) (b1 : b ≤ 9223372036854775807) (w : World) :
    Calls Try.prog 8 #[.int .i64 a, .int .i64 b] w fun e w' => ∃ p : Nat, e = .returned (.pointer (some ⟨p, 0, none⟩)) ∧ Below w.heap.size w w' ∧
      w'.cell? ⟨p, 2, none⟩ = some (.int .u64 (a % 1000000000)) ∧ w'.cell? ⟨p, 3, none⟩ = some (.int .i64 (a / 1000000000)) ∧ w'.cell? ⟨p, 4, none⟩ = some (.pointer none) ∧
      w'.cell? ⟨p, 5, none⟩ = some (.int .u64 (b % 1000000000)) ∧ w'.cell? ⟨p, 6, none⟩ = some (.int .i64 (b / 1000000000)) ∧ w'.cell? ⟨p, 7, none⟩ = some (.pointer none) := by
  go_enter Try.func8, Try.ntmps8
  go_wp2_with fail
  refine (timeOf_any a a0 a1 _).mono ?_; rintro e w' ⟨rfl, rfl⟩
  go_wp2_with fail
  refine (timeOf_any b b0 b1 _).mono ?_; rintro e w' ⟨rfl, rfl⟩
  go_wp2_with fail
  go_ret
  refine ⟨_, rfl, by go_grown, ?_, ?_, ?_, ?_, ?_, ?_⟩
  all_goals simp [go_sem]

set_option maxHeartbeats 1000000 in
theorem took_any (p : Nat) (n s N S : Int) (h0 : 0 ≤ n) (h1 : n < 1000000000) (N0 : 0 ≤ N) (N1 : N < 1000000000) (hs0 : -10000000000 ≤ s) (hs1 : s ≤ 10000000000) (hS0 : -10000000000 ≤ S) (hS1 : S ≤ 10000000000) (w : World)
    (c2 : w.cell? ⟨p, 2, none⟩ = some (.int .u64 N)) (c3 : w.cell? ⟨p, 3, none⟩ = some (.int .i64 S)) (c4 : w.cell? ⟨p, 4, none⟩ = some (.pointer none))
    (c5 : w.cell? ⟨p, 5, none⟩ = some (.int .u64 n)) (c6 : w.cell? ⟨p, 6, none⟩ = some (.int .i64 s)) (c7 : w.cell? ⟨p, 7, none⟩ = some (.pointer none)) :
    Calls Try.prog 9 #[.pointer (some ⟨p, 0, none⟩)] w fun e w' => e = .returned (.int .i64 (sat ((s - S) * 1000000000 + (n - N)))) ∧ Below w.heap.size w w' := by
  go_enter Try.func9, Try.ntmps9
  go_wp2_with fail
  go_region_with (go_at_call 29; refine (sub_any n s N S h0 h1 N0 N1 hs0 hs1 hS0 hS1 _).mono ?_; rintro e w' ⟨rfl, hw⟩)
  all_goals
    go_wp2_with fail
    go_ret
    exact ⟨rfl, (Below.refl _ _).drew.trans hw⟩

/-- Took behind ZZNewTestAt: the difference, held to the range. -/
theorem took_new (p : Nat) (a b : Int) (a0 : -9223372036854775808 ≤ a) (a1 : a ≤ 9223372036854775807) (b0 : -9223372036854775808 ≤ b) (b1 : b ≤ 9223372036854775807) (w : World)
    (c2 : w.cell? ⟨p, 2, none⟩ = some (.int .u64 (a % 1000000000))) (c3 : w.cell? ⟨p, 3, none⟩ = some (.int .i64 (a / 1000000000))) (c4 : w.cell? ⟨p, 4, none⟩ = some (.pointer none))
    (c5 : w.cell? ⟨p, 5, none⟩ = some (.int .u64 (b % 1000000000))) (c6 : w.cell? ⟨p, 6, none⟩ = some (.int .i64 (b / 1000000000))) (c7 : w.cell? ⟨p, 7, none⟩ = some (.pointer none)) :
    Calls Try.prog 9 #[.pointer (some ⟨p, 0, none⟩)] w fun e w' => e = .returned (.int .i64 (sat (b - a))) ∧ Below w.heap.size w w' := by
  have e : b - a = (b / 1000000000 - a / 1000000000) * 1000000000 + (b % 1000000000 - a % 1000000000) := by omega
  rw [e]
  exact took_any p _ _ _ _ (by omega) (by omega) (by omega) (by omega) (by omega) (by omega) (by omega) (by omega) w c2 c3 c4 c5 c6 c7

theorem sat_wf (D : Int) : -9223372036854775808 ≤ sat D ∧ sat D ≤ 9223372036854775807 := by unfold sat; split <;> (try split) <;> omega

/-- zzSaturatedDifference. -/
theorem satDiff_any (a b : Int) (a0 : -9223372036854775808 ≤ a) (a1 : a ≤ 9223372036854775807) (b0 : -9223372036854775808 ≤ b) (b1 : b ≤ 9223372036854775807) (w : World) :
    Calls Try.prog 10 #[.int .i64 a, .int .i64 b] w fun e w' => e = .returned (.int .i64 (sat (b - a))) ∧ w' = w := by
  obtain ⟨d, hd⟩ : ∃ d, wrap64 (b - a) = d := ⟨_, rfl⟩
  have hd' := hd
  unfold wrap64 at hd'
  by_cases h : a ≤ b
  · by_cases k : d < 0
    · have HS : Hid (sat (b - a) = 9223372036854775807) := by show _ = _; unfold sat; rw [if_neg (by omega), if_pos (by omega)]
      clear hd'
      go_enter Try.func10, Try.ntmps10
      go_wp2
      go_ret
      rw [HS.out]
      exact ⟨rfl, rfl⟩
    · have HS : Hid (sat (b - a) = d) := by show _ = _; unfold sat; rw [if_neg (by omega), if_neg (by omega)]; omega
      have hlt : decide (b < a) = false := decide_eq_false (by omega)
      clear hd'
      go_enter Try.func10, Try.ntmps10
      go_wp2
      go_ret
      rw [HS.out]
      exact ⟨rfl, rfl⟩
  · by_cases k : 0 < d
    · have HS : Hid (sat (b - a) = -9223372036854775808) := by show _ = _; unfold sat; rw [if_pos (by omega)]
      have hlt : decide (a ≤ b) = false := decide_eq_false (by omega)
      have hlt2 : b < a := by omega
      clear hd'
      go_enter Try.func10, Try.ntmps10
      go_wp2
      go_ret
      rw [HS.out]
      exact ⟨rfl, rfl⟩
    · have HS : Hid (sat (b - a) = d) := by show _ = _; unfold sat; rw [if_neg (by omega), if_neg (by omega)]; omega
      have hlt : decide (a ≤ b) = false := decide_eq_false (by omega)
      have hlt2 : b < a := by omega
      clear hd'
      go_enter Try.func10, Try.ntmps10
      go_wp2
      go_ret
      rw [HS.out]
      exact ⟨rfl, rfl⟩

/-- zzWithinSpan. -/
theorem span_any (x : Int) (y : Bool) (hy : y = decide (-2305843009213693952 ≤ x ∧ x ≤ 2305843009213693952)) (w : World) :
    Calls Try.prog 11 #[.int .i64 x] w fun e w' => e = .returned (.bool y) ∧ w' = w := by
  have HY : Hid (y = decide (-2305843009213693952 ≤ x ∧ x ≤ 2305843009213693952)) := hy
  clear hy
  by_cases h1 : -2305843009213693952 ≤ x
  · by_cases h2 : x ≤ 2305843009213693952
    · go_enter Try.func11, Try.ntmps11
      go_wp2
      go_ret
      have : y = true := by rw [HY.out]; exact decide_eq_true ⟨h1, h2⟩
      rw [this]
      exact ⟨rfl, rfl⟩
    · have hz : decide (x ≤ 2305843009213693952) = false := decide_eq_false h2
      go_enter Try.func11, Try.ntmps11
      go_wp2
      go_ret
      have : y = false := by rw [HY.out]; exact decide_eq_false (by omega)
      rw [this]
      exact ⟨rfl, rfl⟩
  · have hz : decide (-2305843009213693952 ≤ x) = false := decide_eq_false h1
    go_enter Try.func11, Try.ntmps11
    go_wp2
    go_ret
    have : y = false := by rw [HY.out]; exact decide_eq_false (by omega)
    rw [this]
    exact ⟨rfl, rfl⟩

end Go.Proofs.Qxb6606019a
