import Derived.Test.Qxb6608862aComps
namespace Go.Proofs.Qxb6608862a
open Go.RowKit

/-- What zzBytes answers: a bool; yes only where both slices are short. -/
def BytesOk (n n' : Nat) (w : World) (e : Ending) (w' : World) : Prop := ∃ y : Bool, e = .returned (.bool y) ∧ w = w' ∧ (y = true → n ≤ 1048576 ∧ n' ≤ 1048576)

set_option maxHeartbeats 2000000 in
theorem bytes11_any (a a' : Option Addr) (n c n' c' : Nat) (s s' : Nat → ByteArray) (name : ByteArray) (x : Int) (w : World) (H : Hid (Strs w a n s ∧ Strs w a' n' s')) :
    Calls Try.prog 11 #[.slice a n c, .slice a' n' c', .string name, .int .i64 x] w (BytesOk n n' w) := by
  by_cases h1 : n ≤ 1048576
  · by_cases h2 : n' ≤ 1048576
    all_goals
      go_enter Try.func11, Try.ntmps11
      go_wp2_with fail
      all_goals try (go_ret; exact ⟨_, rfl, rfl, fun h => by first | exact ⟨h1, by omega⟩ | cases h⟩)
      go_loop [9, 10] (fun t i => ∃ (k : Nat) (z : Int), k ≤ n ∧ i = .int .i64 k ∧ t = .int .i64 z) (fun _ i => n - (intOf i).toNat)
      case atStart => exact ⟨0, _, Nat.zero_le _, rfl, rfl⟩
      case round =>
        obtain ⟨k, z, hk, rfl, rfl⟩ := hrel
        by_cases hlt : k < n
        · rcases H.out.1 with h | ⟨b, o, rfl, hc⟩
          · omega
          have h0 := hc k hlt
          clear hc
          go_wp2_with fail
          all_goals try (go_ret; exact ⟨_, rfl, rfl, fun h => by first | exact ⟨h1, by omega⟩ | cases h⟩)
          all_goals
            go_round
            case rel => exact ⟨k + 1, _, by omega, by go_num, rfl⟩
            case measure => simp [intOf]; omega
        · go_wp2_with fail
          all_goals try (go_ret; exact ⟨_, rfl, rfl, fun h => by first | exact ⟨h1, by omega⟩ | cases h⟩)
          all_goals
            go_loop [9, 11] (fun t i => ∃ (k : Nat) (z : Int), k ≤ n' ∧ i = .int .i64 k ∧ t = .int .i64 z) (fun _ i => n' - (intOf i).toNat)
            case atStart => exact ⟨0, _, Nat.zero_le _, rfl, rfl⟩
            case round =>
              obtain ⟨k, z, hk, rfl, rfl⟩ := hrel
              by_cases hlt : k < n'
              · rcases H.out.2 with h | ⟨b, o, rfl, hc⟩
                · omega
                have h0 := hc k hlt
                clear hc
                go_wp2_with fail
                all_goals try (go_ret; exact ⟨_, rfl, rfl, fun h => by first | exact ⟨h1, by omega⟩ | cases h⟩)
                all_goals
                  go_round
                  case rel => exact ⟨k + 1, _, by omega, by go_num, rfl⟩
                  case measure => simp [intOf]; omega
              · go_wp2_with fail
                all_goals (go_ret; exact ⟨_, rfl, rfl, fun h => by first | exact ⟨h1, by omega⟩ | cases h⟩)
  · go_enter Try.func11, Try.ntmps11
    go_wp2_with fail
    go_ret
    exact ⟨_, rfl, rfl, fun h => by cases h⟩

set_option maxHeartbeats 2000000 in
theorem bytes15_any (a a' : Option Addr) (n c n' c' : Nat) (s s' : Nat → ByteArray) (name : ByteArray) (x : Int) (w : World) (H : Hid (Strs w a n s ∧ Strs w a' n' s')) :
    Calls Try.prog 15 #[.slice a n c, .slice a' n' c', .string name, .int .i64 x] w (BytesOk n n' w) := by
  by_cases h1 : n ≤ 1048576
  · by_cases h2 : n' ≤ 1048576
    all_goals
      go_enter Try.func15, Try.ntmps15
      go_wp2_with fail
      all_goals try (go_ret; exact ⟨_, rfl, rfl, fun h => by first | exact ⟨h1, by omega⟩ | cases h⟩)
      go_loop [9, 10] (fun t i => ∃ (k : Nat) (z : Int), k ≤ n ∧ i = .int .i64 k ∧ t = .int .i64 z) (fun _ i => n - (intOf i).toNat)
      case atStart => exact ⟨0, _, Nat.zero_le _, rfl, rfl⟩
      case round =>
        obtain ⟨k, z, hk, rfl, rfl⟩ := hrel
        by_cases hlt : k < n
        · rcases H.out.1 with h | ⟨b, o, rfl, hc⟩
          · omega
          have h0 := hc k hlt
          clear hc
          go_wp2_with fail
          all_goals try (go_ret; exact ⟨_, rfl, rfl, fun h => by first | exact ⟨h1, by omega⟩ | cases h⟩)
          all_goals
            go_round
            case rel => exact ⟨k + 1, _, by omega, by go_num, rfl⟩
            case measure => simp [intOf]; omega
        · go_wp2_with fail
          all_goals try (go_ret; exact ⟨_, rfl, rfl, fun h => by first | exact ⟨h1, by omega⟩ | cases h⟩)
          all_goals
            go_loop [9, 11] (fun t i => ∃ (k : Nat) (z : Int), k ≤ n' ∧ i = .int .i64 k ∧ t = .int .i64 z) (fun _ i => n' - (intOf i).toNat)
            case atStart => exact ⟨0, _, Nat.zero_le _, rfl, rfl⟩
            case round =>
              obtain ⟨k, z, hk, rfl, rfl⟩ := hrel
              by_cases hlt : k < n'
              · rcases H.out.2 with h | ⟨b, o, rfl, hc⟩
                · omega
                have h0 := hc k hlt
                clear hc
                go_wp2_with fail
                all_goals try (go_ret; exact ⟨_, rfl, rfl, fun h => by first | exact ⟨h1, by omega⟩ | cases h⟩)
                all_goals
                  go_round
                  case rel => exact ⟨k + 1, _, by omega, by go_num, rfl⟩
                  case measure => simp [intOf]; omega
              · go_wp2_with fail
                all_goals (go_ret; exact ⟨_, rfl, rfl, fun h => by first | exact ⟨h1, by omega⟩ | cases h⟩)
  · go_enter Try.func15, Try.ntmps15
    go_wp2_with fail
    go_ret
    exact ⟨_, rfl, rfl, fun h => by cases h⟩

end Go.Proofs.Qxb6608862a
