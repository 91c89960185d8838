import Derived.Test.Qxb6606019aTime
import Derived.Deep.RegionWith
import Derived.BigQuiet
namespace Go.Proofs.Qxb6606019a
open Go.RowKit

/-- Equal: the answer, and two boxes. -/
theorem equal_any (n s N S : Int) (x : Bool) (h0 : 0 ≤ n) (h1 : n < 1000000000) (N0 : 0 ≤ N) (N1 : N < 1000000000) (hx : x = (s == S && n == N)) (w : World) :
    Calls Try.prog 45 #[.agg #[.int .u64 n, .int .i64 s, .pointer none], .agg #[.int .u64 N, .int .i64 S, .pointer none]] w fun e w' => e = .returned (.bool x) ∧
      w' = (w.alloc (.cells #[.int .u64 n, .int .i64 s, .pointer none] 46)).alloc (.cells #[.int .u64 N, .int .i64 S, .pointer none] 46) := by
  have hb := bit_hi2 n N h0 h1 N0 N1
  have H : Hid (x = (s == S && n == N)) := hx
  clear hx
  cases e1 : (s == S)
  · go_enter Try.func45, Try.ntmps45
    go_wp2_with fail
    refine (sec_any _ _ n s h0 h1 _ (by simp [go_sem]) (by simp [go_sem])).mono ?_; rintro e w' ⟨rfl, rfl⟩
    go_wp2_with fail
    refine (sec_any _ _ N S N0 N1 _ (by simp [go_sem]) (by simp [go_sem])).mono ?_; rintro e w' ⟨rfl, rfl⟩
    go_wp2_with fail
    go_ret
    rw [H.out, e1]
    exact ⟨rfl, rfl⟩
  · cases e2 : (n == N)
    all_goals
      go_enter Try.func45, Try.ntmps45
      go_wp2_with fail
      refine (sec_any _ _ n s h0 h1 _ (by simp [go_sem]) (by simp [go_sem])).mono ?_; rintro e w' ⟨rfl, rfl⟩
      go_wp2_with fail
      refine (sec_any _ _ N S N0 N1 _ (by simp [go_sem]) (by simp [go_sem])).mono ?_; rintro e w' ⟨rfl, rfl⟩
      go_wp2_with fail
      refine (nsec_any _ _ n h0 h1 _ (by simp [go_sem])).mono ?_; rintro e w' ⟨rfl, rfl⟩
      go_wp2_with fail
      refine (nsec_any _ _ N N0 N1 _ (by simp [go_sem])).mono ?_; rintro e w' ⟨rfl, rfl⟩
      go_wp2_with fail
      go_ret
      rw [H.out, e1, e2]
      exact ⟨rfl, rfl⟩

/-- Before: the answer, and two boxes. -/
theorem before_any (n s N S : Int) (x : Bool) (h0 : 0 ≤ n) (h1 : n < 1000000000) (N0 : 0 ≤ N) (N1 : N < 1000000000) (hx : x = (decide (s < S) || (s == S && decide (n < N)))) (w : World) :
    Calls Try.prog 46 #[.agg #[.int .u64 n, .int .i64 s, .pointer none], .agg #[.int .u64 N, .int .i64 S, .pointer none]] w fun e w' => e = .returned (.bool x) ∧
      w' = (w.alloc (.cells #[.int .u64 n, .int .i64 s, .pointer none] 46)).alloc (.cells #[.int .u64 N, .int .i64 S, .pointer none] 46) := by
  have hb := bit_hi2 n N h0 h1 N0 N1
  have H : Hid (x = (decide (s < S) || (s == S && decide (n < N)))) := hx
  clear hx
  cases e0 : (decide (s < S))
  · cases e1 : (s == S)
    · go_enter Try.func46, Try.ntmps46
      go_wp2_with fail
      refine (sec_any _ _ n s h0 h1 _ (by simp [go_sem]) (by simp [go_sem])).mono ?_; rintro e w' ⟨rfl, rfl⟩
      go_wp2_with fail
      refine (sec_any _ _ N S N0 N1 _ (by simp [go_sem]) (by simp [go_sem])).mono ?_; rintro e w' ⟨rfl, rfl⟩
      go_wp2_with fail
      go_ret
      rw [H.out, e0, e1]
      exact ⟨rfl, rfl⟩
    · cases e2 : (decide (n < N))
      all_goals
        go_enter Try.func46, Try.ntmps46
        go_wp2_with fail
        refine (sec_any _ _ n s h0 h1 _ (by simp [go_sem]) (by simp [go_sem])).mono ?_; rintro e w' ⟨rfl, rfl⟩
        go_wp2_with fail
        refine (sec_any _ _ N S N0 N1 _ (by simp [go_sem]) (by simp [go_sem])).mono ?_; rintro e w' ⟨rfl, rfl⟩
        go_wp2_with fail
        refine (nsec_any _ _ n h0 h1 _ (by simp [go_sem])).mono ?_; rintro e w' ⟨rfl, rfl⟩
        go_wp2_with fail
        refine (nsec_any _ _ N N0 N1 _ (by simp [go_sem])).mono ?_; rintro e w' ⟨rfl, rfl⟩
        go_wp2_with fail
        go_ret
        rw [H.out, e0, e1, e2]
        exact ⟨rfl, rfl⟩
  · go_enter Try.func46, Try.ntmps46
    go_wp2_with fail
    refine (sec_any _ _ n s h0 h1 _ (by simp [go_sem]) (by simp [go_sem])).mono ?_; rintro e w' ⟨rfl, rfl⟩
    go_wp2_with fail
    refine (sec_any _ _ N S N0 N1 _ (by simp [go_sem]) (by simp [go_sem])).mono ?_; rintro e w' ⟨rfl, rfl⟩
    go_wp2_with fail
    go_ret
    rw [H.out, e0]
    exact ⟨rfl, rfl⟩
end Go.Proofs.Qxb6606019a
