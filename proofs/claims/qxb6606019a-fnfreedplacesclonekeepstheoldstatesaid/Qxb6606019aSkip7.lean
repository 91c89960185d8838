import Derived.Test.Qxb6606019aLaw
namespace Go.Proofs.Qxb6606019a
open Go.RowKit

set_option maxRecDepth 100000 in
set_option maxHeartbeats 4000000 in
/-- Where a length is too great, or two lengths that should be one are not, the law answers true at once. -/
theorem law7_skip (a0 a1 a2 a3 a4 a5 a6 : Option Addr) (c0 c1 c2 c3 c4 c5 c6 n0 n1 n2 n3 n4 n5 n6 : Nat) (x y z : Int) (w : World)
    (hno : Hid (¬ (n1 = n0 ∧ n2 = n0 ∧ n4 = n3 ∧ n5 = n3 ∧ n0 ≤ 65536 ∧ n3 ≤ 65536 ∧ n6 ≤ 65536 ∧ (n0 : Int) * 8 + (n1 : Int) * 4 + (n2 : Int) + (n3 : Int) * 8 + (n4 : Int) * 8 + (n5 : Int) * 8 + (n6 : Int) * 8 ≤ 1048576))) :
    Calls Try.prog 7 #[.slice a0 n0 c0, .slice a1 n1 c1, .slice a2 n2 c2, .slice a3 n3 c3, .slice a4 n4 c4, .slice a5 n5 c5, .slice a6 n6 c6, .int .i64 x, .int .i64 y, .int .i64 z] w fun e w' => e = .returned (.bool true) ∧ Below w.heap.size w w' := by
  go_enter Try.func7, Try.ntmps7
  go_wp2_with fail
  refine (bytes27_any a0 a1 a2 a3 a4 a5 a6 c0 c1 c2 c3 c4 c5 c6 n0 n1 n2 n3 n4 n5 n6 x y z w).mono ?_
  rintro e w' ⟨yb, rfl, rfl⟩
  cases yb
  · go_wp2_with fail
    go_ret
    exact ⟨rfl, Below.refl _ _⟩
  go_wp2_with fail
  all_goals first | (go_ret; exact ⟨rfl, Below.refl _ _⟩) | skip
  have hq : ((n5 : Int) != (n3 : Int)) = false := by assumption
  rw [bne_eq_false_iff_eq] at hq
  have := hno.out
  exfalso
  omega

end Go.Proofs.Qxb6606019a
