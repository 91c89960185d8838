import Derived.Test.Qxb6608862aDoorWalk1
import Derived.Lib.ItoaNum
namespace Go.Proofs.Qxb6608862aDoor
open Go.RowKit

/-- The width of k's numeral. -/
def wid (k : Int) : Nat := if k < 0 then Lib.nDigits k.natAbs + 1 else Lib.nDigits k.toNat

theorem wrap_neg (k : Int) (h0 : -9223372036854775808 ≤ k) (h : k < 0) : IntKind.u64.wrap (-IntKind.u64.wrap k) = (k.natAbs : Int) := by
  simp [IntKind.wrap, IntKind.signed, IntKind.bits]
  omega
theorem wrap_pos (k : Int) (h1 : k ≤ 9223372036854775807) (h : 0 ≤ k) : IntKind.u64.wrap k = (k.toNat : Int) := by
  simp [IntKind.wrap, IntKind.signed, IntKind.bits]
  omega

theorem width_any (k : Int) (h0 : -9223372036854775808 ≤ k) (h1 : k ≤ 9223372036854775807) (w : World) :
    Calls Tryd.prog 11 #[.int .i64 k] w fun e w' => e = .returned (.int .i64 (wid k : Nat)) ∧ w = w' := by
  have hw : wid k ≤ 25 := by
    unfold wid
    split
    · have := Lib.nDigits_le20 k.natAbs (by omega); omega
    · have := Lib.nDigits_le20 k.toNat (by omega); omega
  go_enter Tryd.func11, Tryd.ntmps11
  rcases Int.lt_or_le k 0 with hk | hk
  · have hm := wrap_neg k h0 hk
    have hu : k.natAbs < 18446744073709551616 := by omega
    go_wp2_with fail
    go_loop [3, 4] (fun m c => ∃ x d : Nat, m = .int .u64 x ∧ c = .int .i64 d ∧ x < 18446744073709551616 ∧ d + Lib.nDigits x = wid k + 1) (fun m _ => (intOf m).toNat)
    case atStart =>
      refine ⟨k.natAbs, 2, rfl, rfl, hu, ?_⟩
      rw [wid, if_pos hk]; omega
    case round =>
      obtain ⟨x, d, rfl, rfl, hx, he⟩ := hrel
      have hp := Lib.nDigits_pos x
      by_cases h10 : x < 10
      · have h1 := Lib.nDigits_small h10
        obtain rfl : d = wid k := by omega
        go_wp2_with fail
        go_ret
        exact ⟨rfl, rfl⟩
      · have h2 := Lib.nDigits_big h10
        have hd : d ≤ 25 := by omega
        go_wp2_with fail
        go_round
        case rel =>
          refine ⟨x / 10, d + 1, by go_num, by go_num, by omega, by omega⟩
        case measure => simp [intOf]; omega
  · have hm := wrap_pos k h1 hk
    have hu : k.toNat < 18446744073709551616 := by omega
    go_wp2_with fail
    go_loop [3, 4] (fun m c => ∃ x d : Nat, m = .int .u64 x ∧ c = .int .i64 d ∧ x < 18446744073709551616 ∧ d + Lib.nDigits x = wid k + 1) (fun m _ => (intOf m).toNat)
    case atStart =>
      refine ⟨k.toNat, 1, congrArg (Value.int .u64) (by omega), rfl, hu, ?_⟩
      rw [wid, if_neg (by omega)]; omega
    case round =>
      obtain ⟨x, d, rfl, rfl, hx, he⟩ := hrel
      have hp := Lib.nDigits_pos x
      by_cases h10 : x < 10
      · have h1 := Lib.nDigits_small h10
        obtain rfl : d = wid k := by omega
        go_wp2_with fail
        go_ret
        exact ⟨rfl, rfl⟩
      · have h2 := Lib.nDigits_big h10
        have hd : d ≤ 25 := by omega
        go_wp2_with fail
        go_round
        case rel =>
          refine ⟨x / 10, d + 1, by go_num, by go_num, by omega, by omega⟩
        case measure => simp [intOf]; omega

/-- What zzBytes answers: a bool, which no one needs. -/
def AnyBool (w : World) (e : Ending) (w' : World) : Prop := ∃ y : Bool, e = .returned (.bool y) ∧ w = w'

set_option maxHeartbeats 1000000 in
theorem bytes10_any (a b c : ByteArray) (x y z : Int) (d : ByteArray) (w : World) :
    Calls Tryd.prog 10 #[.string a, .string b, .string c, .int .i64 x, .int .i64 y, .int .i64 z, .string d] w (AnyBool w) := by
  go_enter Tryd.func10, Tryd.ntmps10
  go_wp2_with fail
  all_goals go_ret
  all_goals exact ⟨_, rfl, rfl⟩
set_option maxHeartbeats 1000000 in
theorem bytes8_any (a b c : ByteArray) (x z : Int) (d : ByteArray) (w : World) :
    Calls Tryd.prog 8 #[.string a, .string b, .string c, .int .i64 x, .int .i64 z, .string d] w (AnyBool w) := by
  go_enter Tryd.func8, Tryd.ntmps8
  go_wp2_with fail
  all_goals go_ret
  all_goals exact ⟨_, rfl, rfl⟩

theorem notDigit_any (r : Int) (w : World) :
    Calls Tryd.prog 13 #[.int .i32 r] w fun e w' => e = .returned (.bool (decide (r < 48) || decide (57 < r))) ∧ w = w' := by
  by_cases h : r < 48
  · go_enter Tryd.func13, Tryd.ntmps13
    go_wp2_with fail
    go_ret
    exact ⟨by simp [h], rfl⟩
  · go_enter Tryd.func13, Tryd.ntmps13
    go_wp2_with fail
    go_ret
    exact ⟨by simp; omega, rfl⟩
theorem zzNotDigit_any (r : Int) (w : World) :
    Calls Tryd.prog 7 #[.int .i32 r] w fun e w' => e = .returned (.bool (decide (r < 48) || decide (57 < r))) ∧ w = w' := by
  go_enter Tryd.func7, Tryd.ntmps7
  go_wp2_with fail
  refine (notDigit_any r w).mono ?_
  rintro e w' ⟨rfl, rfl⟩
  go_wp2_with fail
  go_ret
  exact ⟨rfl, rfl⟩
end Go.Proofs.Qxb6608862aDoor
