import Derived.Test.Qxb6606019aSub
import Derived.Deep.RegionWith
import Derived.BigQuiet
namespace Go.Proofs.Qxb6606019a
open Go.RowKit

set_option maxHeartbeats 1000000 in
theorem sub_in (n s N S d : Int) (h0 : 0 ≤ n) (h1 : n < 1000000000) (N0 : 0 ≤ N) (N1 : N < 1000000000) (hs0 : -10000000000 ≤ s) (hs1 : s ≤ 10000000000) (hS0 : -10000000000 ≤ S) (hS1 : S ≤ 10000000000)
    (hd : wrap64 (wrap64 ((s - S) * 1000000000) + (n - N)) = d) (hd0 : -9223372036854775808 ≤ d) (hd1 : d ≤ 9223372036854775807) (hD : (s - S) * 1000000000 + (n - N) = d) (w : World) :
    Calls Try.prog 29 #[.agg #[.int .u64 n, .int .i64 s, .pointer none], .agg #[.int .u64 N, .int .i64 S, .pointer none]] w fun e w' => e = .returned (.int .i64 d) ∧ Below w.heap.size w w' := by
  have hb := bit_hi2 n N h0 h1 N0 N1
  have HD : Hid ((s - S) * 1000000000 + (n - N) = d) := hD
  clear hD
  go_enter Try.func29, Try.ntmps29
  go_wp2_with fail
  refine (sec_any _ _ n s h0 h1 _ (by simp [go_sem]) (by simp [go_sem])).mono ?_; rintro e w' ⟨rfl, rfl⟩
  go_wp2_with fail
  refine (sec_any _ _ N S N0 N1 _ (by simp [go_sem]) (by simp [go_sem])).mono ?_; rintro e w' ⟨rfl, rfl⟩
  go_wp2_with fail
  refine (nsec_any _ _ n h0 h1 _ (by simp [go_sem])).mono ?_; rintro e w' ⟨rfl, rfl⟩
  go_wp2_with fail
  refine (nsec_any _ _ N N0 N1 _ (by simp [go_sem])).mono ?_; rintro e w' ⟨rfl, rfl⟩
  go_wp2_with fail
  go_region_with (first
    | (go_at_call 40; refine (add_any N S d n s N0 N1 (by omega) (by omega) hd0 hd1 h0 h1 (by have := HD.out; omega) _).mono ?_; rintro e w' ⟨rfl, rfl⟩)
    | (go_at_call 45; refine (equal_any n s n s true h0 h1 h0 h1 (by simp) _).mono ?_; rintro e w' ⟨rfl, rfl⟩))
  all_goals
    go_wp2_with fail
    go_ret
    exact ⟨rfl, by go_grown⟩

set_option maxHeartbeats 2000000 in
theorem sub_out (n s N S d N' S' : Int) (x : Bool) (h0 : 0 ≤ n) (h1 : n < 1000000000) (N0 : 0 ≤ N) (N1 : N < 1000000000) (hs0 : -10000000000 ≤ s) (hs1 : s ≤ 10000000000) (hS0 : -10000000000 ≤ S) (hS1 : S ≤ 10000000000)
    (hd : wrap64 (wrap64 ((s - S) * 1000000000) + (n - N)) = d) (hd0 : -9223372036854775808 ≤ d) (hd1 : d ≤ 9223372036854775807) (n0 : 0 ≤ N') (n1 : N' < 1000000000)
    (hD : S * 1000000000 + N + d = S' * 1000000000 + N') (hne : (S' == s && N' == n) = false) (hx : x = (decide (s < S) || (s == S && decide (n < N)))) (w : World) :
    Calls Try.prog 29 #[.agg #[.int .u64 n, .int .i64 s, .pointer none], .agg #[.int .u64 N, .int .i64 S, .pointer none]] w fun e w' => e = .returned (.int .i64 (if x then -9223372036854775808 else 9223372036854775807)) ∧ Below w.heap.size w w' := by
  have hb := bit_hi2 n N h0 h1 N0 N1
  have HD : Hid (S * 1000000000 + N + d = S' * 1000000000 + N') := hD
  have HN : Hid ((S' == s && N' == n) = false) := hne
  have HX : Hid (x = (decide (s < S) || (s == S && decide (n < N)))) := hx
  clear hD hne hx
  go_enter Try.func29, Try.ntmps29
  go_wp2_with fail
  refine (sec_any _ _ n s h0 h1 _ (by simp [go_sem]) (by simp [go_sem])).mono ?_; rintro e w' ⟨rfl, rfl⟩
  go_wp2_with fail
  refine (sec_any _ _ N S N0 N1 _ (by simp [go_sem]) (by simp [go_sem])).mono ?_; rintro e w' ⟨rfl, rfl⟩
  go_wp2_with fail
  refine (nsec_any _ _ n h0 h1 _ (by simp [go_sem])).mono ?_; rintro e w' ⟨rfl, rfl⟩
  go_wp2_with fail
  refine (nsec_any _ _ N N0 N1 _ (by simp [go_sem])).mono ?_; rintro e w' ⟨rfl, rfl⟩
  go_wp2_with fail
  go_region_with (first
    | (go_at_call 40; refine (add_any N S d N' S' N0 N1 (by omega) (by omega) hd0 hd1 n0 n1 HD.out _).mono ?_; rintro e w' ⟨rfl, rfl⟩)
    | (go_at_call 45; refine (equal_any N' S' n s false n0 n1 h0 h1 HN.out.symm _).mono ?_; rintro e w' ⟨rfl, rfl⟩))
  all_goals
    go_wp2_with (go_at_call 46; refine (before_any n s N S x h0 h1 N0 N1 HX.out _).mono ?_; rintro e w' ⟨rfl, rfl⟩)
  all_goals
    go_ret
    clear HX
    first
      | (subst x; exact ⟨rfl, by go_grown⟩)
      | (simp_all; done)

/-- A whole number held to the range of int64. -/
def sat (D : Int) : Int := if D < -9223372036854775808 then -9223372036854775808 else if 9223372036854775807 < D then 9223372036854775807 else D

theorem sub_any (n s N S : Int) (h0 : 0 ≤ n) (h1 : n < 1000000000) (N0 : 0 ≤ N) (N1 : N < 1000000000) (hs0 : -10000000000 ≤ s) (hs1 : s ≤ 10000000000) (hS0 : -10000000000 ≤ S) (hS1 : S ≤ 10000000000) (w : World) :
    Calls Try.prog 29 #[.agg #[.int .u64 n, .int .i64 s, .pointer none], .agg #[.int .u64 N, .int .i64 S, .pointer none]] w fun e w' =>
      e = .returned (.int .i64 (sat ((s - S) * 1000000000 + (n - N)))) ∧ Below w.heap.size w w' := by
  obtain ⟨d, hd⟩ : ∃ d, wrap64 (wrap64 ((s - S) * 1000000000) + (n - N)) = d := ⟨_, rfl⟩
  have hd' := hd
  unfold wrap64 at hd'
  by_cases k1 : (s - S) * 1000000000 + (n - N) < -9223372036854775808
  · have e : sat ((s - S) * 1000000000 + (n - N)) = if true then -9223372036854775808 else 9223372036854775807 := by unfold sat; rw [if_pos k1]; rfl
    rw [e]
    refine sub_out n s N S d ((N + d) % 1000000000) (S + (N + d) / 1000000000) true h0 h1 N0 N1 hs0 hs1 hS0 hS1 hd (by omega) (by omega) (by omega) (by omega) (by omega) ?_ ?_ w
    · rw [Bool.and_eq_false_iff, beq_eq_false_iff_ne, beq_eq_false_iff_ne]; omega
    · symm; rw [Bool.or_eq_true, Bool.and_eq_true, decide_eq_true_iff, decide_eq_true_iff, beq_iff_eq]; omega
  · by_cases k2 : 9223372036854775807 < (s - S) * 1000000000 + (n - N)
    · have e : sat ((s - S) * 1000000000 + (n - N)) = if false then -9223372036854775808 else 9223372036854775807 := by unfold sat; rw [if_neg k1, if_pos k2]; rfl
      rw [e]
      refine sub_out n s N S d ((N + d) % 1000000000) (S + (N + d) / 1000000000) false h0 h1 N0 N1 hs0 hs1 hS0 hS1 hd (by omega) (by omega) (by omega) (by omega) (by omega) ?_ ?_ w
      · rw [Bool.and_eq_false_iff, beq_eq_false_iff_ne, beq_eq_false_iff_ne]; omega
      · symm; rw [Bool.or_eq_false_iff, Bool.and_eq_false_iff, decide_eq_false_iff_not, decide_eq_false_iff_not, beq_eq_false_iff_ne]; omega
    · have e : sat ((s - S) * 1000000000 + (n - N)) = d := by unfold sat; rw [if_neg k1, if_neg k2]; omega
      rw [e]
      exact sub_in n s N S d h0 h1 N0 N1 hs0 hs1 hS0 hS1 hd (by omega) (by omega) (by omega) w

/-- zzTimeOf: the moment, and three boxes. -/
theorem timeOf_any (v : Int) (v0 : -9223372036854775808 ≤ v) (v1 : v ≤ 9223372036854775807) (w : World) :
    Calls Try.prog 28 #[.int .i64 v] w fun e w' => e = .returned (.agg #[.int .u64 (v % 1000000000), .int .i64 (v / 1000000000), .pointer none]) ∧
      w' = ((w.alloc (.cells #[.int .u64 (v % 1000000000), .int .i64 (v / 1000000000), .pointer none] 46)).alloc (.cells #[.int .u64 (v % 1000000000), .int .i64 (v / 1000000000), .pointer none] 46)).alloc (.cells #[.int .u64 (v % 1000000000), .int .i64 (v / 1000000000), .pointer none] 46) := by
  obtain ⟨n, hn⟩ : ∃ n, v % 1000000000 = n := ⟨_, rfl⟩
  obtain ⟨s, hs⟩ : ∃ s, v / 1000000000 = s := ⟨_, rfl⟩
  rw [hn, hs]
  have k0 : 0 ≤ n := by omega
  have k1 : n < 1000000000 := by omega
  have k2 : 0 * 1000000000 + 0 + v = s * 1000000000 + n := by omega
  clear hn hs
  have K2 : Hid (0 * 1000000000 + 0 + v = s * 1000000000 + n) := k2
  clear k2
  go_enter Try.func28, Try.ntmps28
  go_wp2_with (go_at_call 40; refine (add_any 0 0 v n s (by omega) (by omega) (by omega) (by omega) v0 v1 k0 k1 K2.out _).mono ?_; rintro e w' ⟨rfl, rfl⟩)
  go_returns
  exact ⟨rfl, rfl⟩

end Go.Proofs.Qxb6606019a
