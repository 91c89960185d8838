import Derived.Test.Qxb6606019aProg
import Derived.Test.Qxb6606019aBits
import Derived.WalkKit
import Derived.Handy
namespace Go.Proofs.Qxb6606019a
open Go.RowKit

theorem ret_int {k : IntKind} {a b : Int} (h : a = b) : Ending.returned (.int k a) = .returned (.int k b) := by rw [h]

set_option maxHeartbeats 400000 in
theorem nsec_any (b off : Nat) (n : Int) (h0 : 0 ≤ n) (h1 : n < 1000000000) (w : World) (hc : w.cell? ⟨b, off, none⟩ = some (.int .u64 n)) :
    Calls Try.prog 44 #[.pointer (some ⟨b, off, none⟩)] w fun e w' => e = .returned (.int .i32 n) ∧ w' = w := by
  have hl := bit_lo n h0 h1
  go_enter Try.func44, Try.ntmps44
  go_wp2
  go_ret
  exact ⟨rfl, rfl⟩

set_option maxHeartbeats 400000 in
theorem sec_any (b off : Nat) (n s : Int) (h0 : 0 ≤ n) (h1 : n < 1000000000) (w : World) (hc : w.cell? ⟨b, off, none⟩ = some (.int .u64 n)) (hs : w.cell? ⟨b, off + 1, none⟩ = some (.int .i64 s)) :
    Calls Try.prog 43 #[.pointer (some ⟨b, off, none⟩)] w fun e w' => e = .returned (.int .i64 s) ∧ w' = w := by
  have hl := bit_hi n h0 h1
  go_enter Try.func43, Try.ntmps43
  go_wp2
  go_ret
  exact ⟨rfl, rfl⟩

set_option maxHeartbeats 400000 in
theorem addSec_any (b off : Nat) (n s d : Int) (h0 : 0 ≤ n) (h1 : n < 1000000000) (hs0 : -20000000000 ≤ s) (hs1 : s ≤ 20000000000) (hd0 : -20000000000 ≤ d) (hd1 : d ≤ 20000000000)
    (w : World) (hc : w.cell? ⟨b, off, none⟩ = some (.int .u64 n)) (hs : w.cell? ⟨b, off + 1, none⟩ = some (.int .i64 s)) (hf : w.frozen? ⟨b, off + 1, none⟩ = false) :
    Calls Try.prog 51 #[.pointer (some ⟨b, off, none⟩), .int .i64 d] w fun e w' => e = .returned (.tuple #[]) ∧ w' = w.setCell ⟨b, off + 1, none⟩ (.int .i64 (s + d)) := by
  have hl := bit_hi n h0 h1
  by_cases hd : 0 < d
  · have hx : s < s + d := by omega
    go_enter Try.func51, Try.ntmps51
    go_wp2
    go_end0
    exact ⟨rfl, rfl⟩
  · have hx : decide (s < s + d) = false := decide_eq_false (by omega)
    go_enter Try.func51, Try.ntmps51
    go_wp2
    go_end0
    exact ⟨rfl, rfl⟩

theorem tdm (d : Int) (h0 : -9223372036854775808 ≤ d) (h1 : d ≤ 9223372036854775807) : ∃ q r : Int, d.tdiv 1000000000 = q ∧ d.tmod 1000000000 = r ∧ d = q * 1000000000 + r ∧ -9223372036 ≤ q ∧ q ≤ 9223372036 ∧ -1000000000 < r ∧ r < 1000000000 := by
  refine ⟨_, _, rfl, rfl, ?_, ?_, ?_, ?_, ?_⟩
  · have := Int.mul_tdiv_add_tmod d 1000000000; omega
  all_goals rcases Int.le_total 0 d with h | h
  · have := Int.tdiv_eq_ediv_of_nonneg (b := 1000000000) h; omega
  · have e : (-d).tdiv 1000000000 = -(d.tdiv 1000000000) := Int.neg_tdiv _ _
    have := Int.tdiv_eq_ediv_of_nonneg (a := -d) (b := 1000000000) (by omega); omega
  · have := Int.tdiv_eq_ediv_of_nonneg (b := 1000000000) h; omega
  · have e : (-d).tdiv 1000000000 = -(d.tdiv 1000000000) := Int.neg_tdiv _ _
    have := Int.tdiv_eq_ediv_of_nonneg (a := -d) (b := 1000000000) (by omega); omega
  · have := Int.tmod_eq_emod_of_nonneg (b := 1000000000) h; omega
  · have e : (-d).tmod 1000000000 = -(d.tmod 1000000000) := Int.neg_tmod _ _
    have := Int.tmod_eq_emod_of_nonneg (a := -d) (b := 1000000000) (by omega); omega
  · have := Int.tmod_eq_emod_of_nonneg (b := 1000000000) h; omega
  · have e : (-d).tmod 1000000000 = -(d.tmod 1000000000) := Int.neg_tmod _ _
    have := Int.tmod_eq_emod_of_nonneg (a := -d) (b := 1000000000) (by omega); omega

set_option maxHeartbeats 1000000 in
theorem add_mid (n s d q r : Int) (h0 : 0 ≤ n) (h1 : n < 1000000000) (hs0 : -10000000000 ≤ s) (hs1 : s ≤ 10000000000) (hq : d.tdiv 1000000000 = q) (hr : d.tmod 1000000000 = r)
    (q0 : -9223372036 ≤ q) (q1 : q ≤ 9223372036) (r0 : -1000000000 < r) (r1 : r < 1000000000) (k0 : 0 ≤ n + r) (k1 : n + r < 1000000000) (w : World) :
    Calls Try.prog 40 #[.agg #[.int .u64 n, .int .i64 s, .pointer none], .int .i64 d] w fun e w' => e = .returned (.agg #[.int .u64 (n + r), .int .i64 (s + (q)), .pointer none]) ∧
      w' = (w.alloc (.cells #[.int .u64 (n + r), .int .i64 (s + (q)), .pointer none] 46)).alloc (.cells #[.int .u64 (n + r), .int .i64 (s + (q)), .pointer none] 46) := by
  have m0 : 0 ≤ n + r := by omega
  have m1 : n + r < 1000000000 := by omega
  have hh := bit_hi (n + r) m0 m1
  have hn := bit_not n h0 h1
  have ho := bit_or (n + r) m0 m1
  go_enter Try.func40, Try.ntmps40
  go_wp2_with (first
    | (go_at_call 44; refine (nsec_any _ _ n h0 h1 _ (by simp [go_sem])).mono ?_; rintro e w' ⟨rfl, rfl⟩)
    | (go_at_call 51; refine (addSec_any _ _ (n + r) s (q) m0 m1 (by omega) (by omega) (by omega) (by omega) _ (by simp [go_sem]) (by simp [go_sem]) (by simp [go_sem])).mono ?_; rintro e w' ⟨rfl, rfl⟩))
  go_returns
  exact ⟨rfl, rfl⟩

set_option maxHeartbeats 1000000 in
theorem add_up (n s d q r : Int) (h0 : 0 ≤ n) (h1 : n < 1000000000) (hs0 : -10000000000 ≤ s) (hs1 : s ≤ 10000000000) (hq : d.tdiv 1000000000 = q) (hr : d.tmod 1000000000 = r)
    (q0 : -9223372036 ≤ q) (q1 : q ≤ 9223372036) (r0 : -1000000000 < r) (r1 : r < 1000000000) (k0 : 1000000000 ≤ n + r) (w : World) :
    Calls Try.prog 40 #[.agg #[.int .u64 n, .int .i64 s, .pointer none], .int .i64 d] w fun e w' => e = .returned (.agg #[.int .u64 (n + r - 1000000000), .int .i64 (s + (q + 1)), .pointer none]) ∧
      w' = (w.alloc (.cells #[.int .u64 (n + r - 1000000000), .int .i64 (s + (q + 1)), .pointer none] 46)).alloc (.cells #[.int .u64 (n + r - 1000000000), .int .i64 (s + (q + 1)), .pointer none] 46) := by
  have m0 : 0 ≤ n + r - 1000000000 := by omega
  have m1 : n + r - 1000000000 < 1000000000 := by omega
  have hh := bit_hi (n + r - 1000000000) m0 m1
  have hn := bit_not n h0 h1
  have ho := bit_or (n + r - 1000000000) m0 m1
  go_enter Try.func40, Try.ntmps40
  go_wp2_with (first
    | (go_at_call 44; refine (nsec_any _ _ n h0 h1 _ (by simp [go_sem])).mono ?_; rintro e w' ⟨rfl, rfl⟩)
    | (go_at_call 51; refine (addSec_any _ _ (n + r - 1000000000) s (q + 1) m0 m1 (by omega) (by omega) (by omega) (by omega) _ (by simp [go_sem]) (by simp [go_sem]) (by simp [go_sem])).mono ?_; rintro e w' ⟨rfl, rfl⟩))
  go_returns
  exact ⟨rfl, rfl⟩

set_option maxHeartbeats 1000000 in
theorem add_dn (n s d q r : Int) (h0 : 0 ≤ n) (h1 : n < 1000000000) (hs0 : -10000000000 ≤ s) (hs1 : s ≤ 10000000000) (hq : d.tdiv 1000000000 = q) (hr : d.tmod 1000000000 = r)
    (q0 : -9223372036 ≤ q) (q1 : q ≤ 9223372036) (r0 : -1000000000 < r) (r1 : r < 1000000000) (k0 : n + r < 0) (w : World) :
    Calls Try.prog 40 #[.agg #[.int .u64 n, .int .i64 s, .pointer none], .int .i64 d] w fun e w' => e = .returned (.agg #[.int .u64 (n + r + 1000000000), .int .i64 (s + (q - 1)), .pointer none]) ∧
      w' = (w.alloc (.cells #[.int .u64 (n + r + 1000000000), .int .i64 (s + (q - 1)), .pointer none] 46)).alloc (.cells #[.int .u64 (n + r + 1000000000), .int .i64 (s + (q - 1)), .pointer none] 46) := by
  have m0 : 0 ≤ n + r + 1000000000 := by omega
  have m1 : n + r + 1000000000 < 1000000000 := by omega
  have hh := bit_hi (n + r + 1000000000) m0 m1
  have hn := bit_not n h0 h1
  have ho := bit_or (n + r + 1000000000) m0 m1
  go_enter Try.func40, Try.ntmps40
  go_wp2_with (first
    | (go_at_call 44; refine (nsec_any _ _ n h0 h1 _ (by simp [go_sem])).mono ?_; rintro e w' ⟨rfl, rfl⟩)
    | (go_at_call 51; refine (addSec_any _ _ (n + r + 1000000000) s (q - 1) m0 m1 (by omega) (by omega) (by omega) (by omega) _ (by simp [go_sem]) (by simp [go_sem]) (by simp [go_sem])).mono ?_; rintro e w' ⟨rfl, rfl⟩))
  go_returns
  exact ⟨rfl, rfl⟩

theorem add_any (n s d N S : Int) (h0 : 0 ≤ n) (h1 : n < 1000000000) (hs0 : -10000000000 ≤ s) (hs1 : s ≤ 10000000000) (hd0 : -9223372036854775808 ≤ d) (hd1 : d ≤ 9223372036854775807)
    (N0 : 0 ≤ N) (N1 : N < 1000000000) (hNS : s * 1000000000 + n + d = S * 1000000000 + N) (w : World) :
    Calls Try.prog 40 #[.agg #[.int .u64 n, .int .i64 s, .pointer none], .int .i64 d] w fun e w' => e = .returned (.agg #[.int .u64 N, .int .i64 S, .pointer none]) ∧
      w' = (w.alloc (.cells #[.int .u64 N, .int .i64 S, .pointer none] 46)).alloc (.cells #[.int .u64 N, .int .i64 S, .pointer none] 46) := by
  obtain ⟨q, r, hq, hr, hd, q0, q1, r0, r1⟩ := tdm d hd0 hd1
  by_cases k1 : 1000000000 ≤ n + r
  · obtain rfl : N = n + r - 1000000000 := by omega
    obtain rfl : S = s + (q + 1) := by omega
    exact add_up n s d q r h0 h1 hs0 hs1 hq hr q0 q1 r0 r1 k1 w
  · by_cases k0 : n + r < 0
    · obtain rfl : N = n + r + 1000000000 := by omega
      obtain rfl : S = s + (q - 1) := by omega
      exact add_dn n s d q r h0 h1 hs0 hs1 hq hr q0 q1 r0 r1 k0 w
    · obtain rfl : N = n + r := by omega
      obtain rfl : S = s + q := by omega
      exact add_mid n s d q r h0 h1 hs0 hs1 hq hr q0 q1 r0 r1 (by omega) (by omega) w

end Go.Proofs.Qxb6606019a
