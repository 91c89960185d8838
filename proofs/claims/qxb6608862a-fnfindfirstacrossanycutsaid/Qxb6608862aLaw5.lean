import Derived.Test.Qxb6608862aHit
namespace Go.Proofs.Qxb6608862a
open Go.RowKit

theorem calls_abs3 {P : Program} {f : FuncId} {args : Array Value} {Q : Ending → World → Prop} (w2 : World) (c1 c2 c3 : Array Value) (t1 t2 t3 : TypeId)
    (k : ∀ W, Below w2.heap.size w2 W → (∀ j, W.cell? ⟨w2.heap.size, j, none⟩ = c1[j]?) → (∀ j, W.cell? ⟨w2.heap.size + 1, j, none⟩ = c2[j]?) → (∀ j, W.cell? ⟨w2.heap.size + 1 + 1, j, none⟩ = c3[j]?) → Calls P f args W Q) :
    Calls P f args (((w2.alloc (.cells c1 t1)).alloc (.cells c2 t2)).alloc (.cells c3 t3)) Q := by
  refine k _ (by go_grown) (fun j => ?_) (fun j => ?_) (fun j => ?_)
  all_goals simp [go_sem]

set_option maxRecDepth 100000 in
set_option maxHeartbeats 4000000 in
theorem law5 (a a' : Option Addr) (n c n' c' : Nat) (s s' : Nat → ByteArray) (name : ByteArray) (cut : Int) (w : World) (H : Hid (Strs w a n s ∧ Strs w a' n' s')) :
    Calls Try.prog 5 #[.slice a n c, .slice a' n' c', .string name, .int .i64 cut] w fun e w' => e = .returned (.bool true) ∧ Below w.heap.size w w' := by
  go_enter Try.func5, Try.ntmps5
  go_wp2_with fail
  refine (bytes11_any a a' n c n' c' s s' name cut w H).mono ?_
  rintro e w' ⟨yb, rfl, rfl, hy⟩
  cases yb
  · go_wp2_with fail
    go_ret
    exact ⟨rfl, Below.refl _ _⟩
  obtain ⟨h1, h2⟩ := hy rfl
  clear hy
  go_wp2_with fail
  all_goals try (go_ret; exact ⟨rfl, Below.refl _ _⟩)
  go_loop [9, 10] (fun t i => ∃ (k : Nat) (z : Int), k ≤ n ∧ i = .int .i64 k ∧ t = .int .i64 z) (fun _ i => n - (intOf i).toNat)
  case atStart => exact ⟨0, _, Nat.zero_le _, rfl, rfl⟩
  case round =>
    obtain ⟨k, z, hk, rfl, rfl⟩ := hrel
    by_cases hlt : k < n
    · rcases H.out.1 with h | ⟨b, o, rfl, hc⟩
      · omega
      have h0 := hc k hlt
      clear hc
      go_wp2_with fail
      all_goals try (go_ret; exact ⟨rfl, Below.refl _ _⟩)
      all_goals
        go_round
        case rel => exact ⟨k + 1, _, by omega, by go_num, rfl⟩
        case measure => simp [intOf]; omega
    go_wp2_with fail
    go_loop [9, 11] (fun t i => ∃ (k : Nat) (z : Int), k ≤ n' ∧ i = .int .i64 k ∧ t = .int .i64 z) (fun _ i => n' - (intOf i).toNat)
    case atStart => exact ⟨0, _, Nat.zero_le _, rfl, rfl⟩
    case round =>
      obtain ⟨k', z', hk', rfl, rfl⟩ := hrel
      by_cases hlt' : k' < n'
      · rcases H.out.2 with h | ⟨b, o, rfl, hc⟩
        · omega
        have h0 := hc k' hlt'
        clear hc
        go_wp2_with fail
        all_goals try (go_ret; exact ⟨rfl, Below.refl _ _⟩)
        all_goals
          go_round
          case rel => exact ⟨k' + 1, _, by omega, by go_num, rfl⟩
          case measure => simp [intOf]; omega
      go_wp2_with fail
      all_goals try (go_ret; exact ⟨rfl, Below.refl _ _⟩)
      have hc0 : 0 ≤ cut := by omega
      have hc1 : cut ≤ n := by omega
      obtain ⟨u, rfl⟩ := Int.eq_ofNat_of_zero_le hc0
      have hu : u ≤ n := by omega
      by_cases hul : u < n
      · rcases first_or_none n (fun i => eqS (s i) name) with ⟨k, hkn, hkt, hkl⟩ | hno
        · have HA : Hid (k < n ∧ eqS (s k) name = true ∧ ∀ i, i < k → eqS (s i) name = false) := ⟨hkn, hkt, hkl⟩
          clear hkn hkt hkl
          by_cases hku : k < u
          · have HK : Hid (k < u) := hku
            clear hku
            refine (comps_any a n c s (by omega) w H.out.1).mono ?_
            rintro e w1 ⟨q, rfl, hb1, hB1, hR1⟩
            have X1 : Hid (Below w.heap.size w w1 ∧ Row w1 w.heap.size n q s) := ⟨hb1, hR1⟩
            clear hb1 hB1 hR1
            go_wp2_with fail
            refine (comps_any a' n' c' s' (by omega) w1 (H.out.2.later X1.out.1)).mono ?_
            rintro e w2 ⟨q', rfl, hb2, hB2, hR2⟩
            have X2 : Hid (Below w.heap.size w w2 ∧ Row w2 w.heap.size n q s ∧ Row w2 w1.heap.size n' q' s') := ⟨later X1.out.1 hb2, X1.out.2.later hb2, hR2⟩
            clear hb2 hB2 hR2 X1
            go_wp2_with fail
            refine calls_abs3 w2 _ _ _ _ _ _ ?_
            intro W hb b1 b2 b3
            have X3 : Hid (Below w.heap.size w W ∧ Typ W w2.heap.size (some ⟨w.heap.size, 0, none⟩) n n q s (some ⟨w1.heap.size, 0, none⟩) n' n' q' s' ∧
                Typ W (w2.heap.size + 1) (some ⟨w.heap.size, 0, none⟩) u n q s none 0 0 q' s' ∧ Typ W (w2.heap.size + 1 + 1) (some ⟨w.heap.size, u, none⟩) (n - u) (n - u) (fun i => q (u + i)) (fun i => s (u + i)) (some ⟨w1.heap.size, 0, none⟩) n' n' q' s' ∧ Row W w.heap.size n q s ∧ Row W w1.heap.size n' q' s') := by
              obtain ⟨x1, x2, x3⟩ := X2.out
              have y2 := x2.later hb
              have y3 := x3.later hb
              exact ⟨later x1 hb, ⟨b1 15, b1 16, cmps_of_row y2 _ (Nat.le_refl _), cmps_of_row y3 _ (Nat.le_refl _)⟩, ⟨b2 15, b2 16, cmps_of_row y2 _ (by omega), .inl rfl⟩, ⟨b3 15, b3 16, cmps_back y2 _ _ (fun h => by first | rfl | omega), cmps_of_row y3 _ (Nat.le_refl _)⟩, y2, y3⟩
            clear hb b1 b2 b3 X2
            refine (find_hit k w2.heap.size (some ⟨w.heap.size, 0, none⟩) (n) (n) (q) (s) (some ⟨w1.heap.size, 0, none⟩) (n') (n') q' s' name (by omega) (by omega) W X3.out.2.1 HA.out.1 HA.out.2.1 HA.out.2.2).mono ?_
            rintro e w4 ⟨rfl, hb⟩
            have X4 : Hid (Below w.heap.size w w4 ∧ Typ w4 w2.heap.size (some ⟨w.heap.size, 0, none⟩) n n q s (some ⟨w1.heap.size, 0, none⟩) n' n' q' s' ∧
                Typ w4 (w2.heap.size + 1) (some ⟨w.heap.size, 0, none⟩) u n q s none 0 0 q' s' ∧ Typ w4 (w2.heap.size + 1 + 1) (some ⟨w.heap.size, u, none⟩) (n - u) (n - u) (fun i => q (u + i)) (fun i => s (u + i)) (some ⟨w1.heap.size, 0, none⟩) n' n' q' s' ∧ Row w4 w.heap.size n q s ∧ Row w4 w1.heap.size n' q' s') :=
              ⟨later X3.out.1 hb, X3.out.2.1.later hb, X3.out.2.2.1.later hb, X3.out.2.2.2.1.later hb, X3.out.2.2.2.2.1.later hb, X3.out.2.2.2.2.2.later hb⟩
            clear hb X3
            go_wp2_with fail
            refine (find_hit k (w2.heap.size + 1) (some ⟨w.heap.size, 0, none⟩) (u) (n) (q) (s) (none) (0) (0) q' s' name (by omega) (by omega) w4 X4.out.2.2.1 HK.out HA.out.2.1 HA.out.2.2).mono ?_
            rintro e w5 ⟨rfl, hb⟩
            have X5 : Hid (Below w.heap.size w w5 ∧ Typ w5 w2.heap.size (some ⟨w.heap.size, 0, none⟩) n n q s (some ⟨w1.heap.size, 0, none⟩) n' n' q' s' ∧
                Typ w5 (w2.heap.size + 1) (some ⟨w.heap.size, 0, none⟩) u n q s none 0 0 q' s' ∧ Typ w5 (w2.heap.size + 1 + 1) (some ⟨w.heap.size, u, none⟩) (n - u) (n - u) (fun i => q (u + i)) (fun i => s (u + i)) (some ⟨w1.heap.size, 0, none⟩) n' n' q' s' ∧ Row w5 w.heap.size n q s ∧ Row w5 w1.heap.size n' q' s') :=
              ⟨later X4.out.1 hb, X4.out.2.1.later hb, X4.out.2.2.1.later hb, X4.out.2.2.2.1.later hb, X4.out.2.2.2.2.1.later hb, X4.out.2.2.2.2.2.later hb⟩
            clear hb X4
            have hcell := (X5.out.2.2.2.2.1 k HA.out.1).2.1
            have hq : ((s k).toList == name.toList) = true := HA.out.2.1
            have h37 := neq37
            go_wp2_with fail
            refine (has_any a n c s name true (by omega) w5 (H.out.1.later X5.out.1) (.inl ⟨rfl, k, HA.out.1, HA.out.2.1⟩)).mono ?_
            rintro e w' ⟨rfl, rfl⟩
            go_wp2_with fail
            go_ret
            exact ⟨rfl, X5.out.1⟩
          · have HK : Hid (u ≤ k) := by show _ ≤ _; omega
            clear hku
            refine (comps_any a n c s (by omega) w H.out.1).mono ?_
            rintro e w1 ⟨q, rfl, hb1, hB1, hR1⟩
            have X1 : Hid (Below w.heap.size w w1 ∧ Row w1 w.heap.size n q s) := ⟨hb1, hR1⟩
            clear hb1 hB1 hR1
            go_wp2_with fail
            refine (comps_any a' n' c' s' (by omega) w1 (H.out.2.later X1.out.1)).mono ?_
            rintro e w2 ⟨q', rfl, hb2, hB2, hR2⟩
            have X2 : Hid (Below w.heap.size w w2 ∧ Row w2 w.heap.size n q s ∧ Row w2 w1.heap.size n' q' s') := ⟨later X1.out.1 hb2, X1.out.2.later hb2, hR2⟩
            clear hb2 hB2 hR2 X1
            go_wp2_with fail
            refine calls_abs3 w2 _ _ _ _ _ _ ?_
            intro W hb b1 b2 b3
            have X3 : Hid (Below w.heap.size w W ∧ Typ W w2.heap.size (some ⟨w.heap.size, 0, none⟩) n n q s (some ⟨w1.heap.size, 0, none⟩) n' n' q' s' ∧
                Typ W (w2.heap.size + 1) (some ⟨w.heap.size, 0, none⟩) u n q s none 0 0 q' s' ∧ Typ W (w2.heap.size + 1 + 1) (some ⟨w.heap.size, u, none⟩) (n - u) (n - u) (fun i => q (u + i)) (fun i => s (u + i)) (some ⟨w1.heap.size, 0, none⟩) n' n' q' s' ∧ Row W w.heap.size n q s ∧ Row W w1.heap.size n' q' s') := by
              obtain ⟨x1, x2, x3⟩ := X2.out
              have y2 := x2.later hb
              have y3 := x3.later hb
              exact ⟨later x1 hb, ⟨b1 15, b1 16, cmps_of_row y2 _ (Nat.le_refl _), cmps_of_row y3 _ (Nat.le_refl _)⟩, ⟨b2 15, b2 16, cmps_of_row y2 _ (by omega), .inl rfl⟩, ⟨b3 15, b3 16, cmps_back y2 _ _ (fun h => by first | rfl | omega), cmps_of_row y3 _ (Nat.le_refl _)⟩, y2, y3⟩
            clear hb b1 b2 b3 X2
            refine (find_hit k w2.heap.size (some ⟨w.heap.size, 0, none⟩) (n) (n) (q) (s) (some ⟨w1.heap.size, 0, none⟩) (n') (n') q' s' name (by omega) (by omega) W X3.out.2.1 HA.out.1 HA.out.2.1 HA.out.2.2).mono ?_
            rintro e w4 ⟨rfl, hb⟩
            have X4 : Hid (Below w.heap.size w w4 ∧ Typ w4 w2.heap.size (some ⟨w.heap.size, 0, none⟩) n n q s (some ⟨w1.heap.size, 0, none⟩) n' n' q' s' ∧
                Typ w4 (w2.heap.size + 1) (some ⟨w.heap.size, 0, none⟩) u n q s none 0 0 q' s' ∧ Typ w4 (w2.heap.size + 1 + 1) (some ⟨w.heap.size, u, none⟩) (n - u) (n - u) (fun i => q (u + i)) (fun i => s (u + i)) (some ⟨w1.heap.size, 0, none⟩) n' n' q' s' ∧ Row w4 w.heap.size n q s ∧ Row w4 w1.heap.size n' q' s') :=
              ⟨later X3.out.1 hb, X3.out.2.1.later hb, X3.out.2.2.1.later hb, X3.out.2.2.2.1.later hb, X3.out.2.2.2.2.1.later hb, X3.out.2.2.2.2.2.later hb⟩
            clear hb X3
            go_wp2_with fail
            refine (find_nil (w2.heap.size + 1) (some ⟨w.heap.size, 0, none⟩) (u) (n) (q) (s) (none) (0) (0) q' s' name (by omega) (by omega) w4 X4.out.2.2.1 (fun i hi => HA.out.2.2 i (by have := HK.out; omega)) (fun i hi => by omega)).mono ?_
            rintro e w5 ⟨rfl, hb⟩
            have X5 : Hid (Below w.heap.size w w5 ∧ Typ w5 w2.heap.size (some ⟨w.heap.size, 0, none⟩) n n q s (some ⟨w1.heap.size, 0, none⟩) n' n' q' s' ∧
                Typ w5 (w2.heap.size + 1) (some ⟨w.heap.size, 0, none⟩) u n q s none 0 0 q' s' ∧ Typ w5 (w2.heap.size + 1 + 1) (some ⟨w.heap.size, u, none⟩) (n - u) (n - u) (fun i => q (u + i)) (fun i => s (u + i)) (some ⟨w1.heap.size, 0, none⟩) n' n' q' s' ∧ Row w5 w.heap.size n q s ∧ Row w5 w1.heap.size n' q' s') :=
              ⟨later X4.out.1 hb, X4.out.2.1.later hb, X4.out.2.2.1.later hb, X4.out.2.2.2.1.later hb, X4.out.2.2.2.2.1.later hb, X4.out.2.2.2.2.2.later hb⟩
            clear hb X4
            go_wp2_with fail
            refine (find_hit (k - u) (w2.heap.size + 1 + 1) (some ⟨w.heap.size, u, none⟩) (n - u) (n - u) (fun i => q (u + i)) (fun i => s (u + i)) (some ⟨w1.heap.size, 0, none⟩) (n') (n') q' s' name (by omega) (by omega) w5 X5.out.2.2.2.1 (by have := HK.out; have := HA.out.1; omega) (by show eqS (s (u + (k - u))) name = true; rw [show u + (k - u) = k by have := HK.out; omega]; exact HA.out.2.1) (fun i hi => HA.out.2.2 (u + i) (by omega))).mono ?_
            rintro e w6 ⟨rfl, hb⟩
            have X6 : Hid (Below w.heap.size w w6 ∧ Typ w6 w2.heap.size (some ⟨w.heap.size, 0, none⟩) n n q s (some ⟨w1.heap.size, 0, none⟩) n' n' q' s' ∧
                Typ w6 (w2.heap.size + 1) (some ⟨w.heap.size, 0, none⟩) u n q s none 0 0 q' s' ∧ Typ w6 (w2.heap.size + 1 + 1) (some ⟨w.heap.size, u, none⟩) (n - u) (n - u) (fun i => q (u + i)) (fun i => s (u + i)) (some ⟨w1.heap.size, 0, none⟩) n' n' q' s' ∧ Row w6 w.heap.size n q s ∧ Row w6 w1.heap.size n' q' s') :=
              ⟨later X5.out.1 hb, X5.out.2.1.later hb, X5.out.2.2.1.later hb, X5.out.2.2.2.1.later hb, X5.out.2.2.2.2.1.later hb, X5.out.2.2.2.2.2.later hb⟩
            clear hb X5
            rw [show u + (k - u) = k by have := HK.out; omega]
            have hcell := (X6.out.2.2.2.2.1 k HA.out.1).2.1
            have hq : ((s k).toList == name.toList) = true := HA.out.2.1
            have h37 := neq37
            go_wp2_with fail
            refine (has_any a n c s name true (by omega) w6 (H.out.1.later X6.out.1) (.inl ⟨rfl, k, HA.out.1, HA.out.2.1⟩)).mono ?_
            rintro e w' ⟨rfl, rfl⟩
            go_wp2_with fail
            go_ret
            exact ⟨rfl, X6.out.1⟩
        · have HN : Hid (∀ i, i < n → eqS (s i) name = false) := hno
          clear hno
          rcases first_or_none n' (fun i => eqS (s' i) name) with ⟨k, hkn, hkt, hkl⟩ | hno
          · have HA : Hid (k < n' ∧ eqS (s' k) name = true ∧ ∀ i, i < k → eqS (s' i) name = false) := ⟨hkn, hkt, hkl⟩
            clear hkn hkt hkl
            refine (comps_any a n c s (by omega) w H.out.1).mono ?_
            rintro e w1 ⟨q, rfl, hb1, hB1, hR1⟩
            have X1 : Hid (Below w.heap.size w w1 ∧ Row w1 w.heap.size n q s) := ⟨hb1, hR1⟩
            clear hb1 hB1 hR1
            go_wp2_with fail
            refine (comps_any a' n' c' s' (by omega) w1 (H.out.2.later X1.out.1)).mono ?_
            rintro e w2 ⟨q', rfl, hb2, hB2, hR2⟩
            have X2 : Hid (Below w.heap.size w w2 ∧ Row w2 w.heap.size n q s ∧ Row w2 w1.heap.size n' q' s') := ⟨later X1.out.1 hb2, X1.out.2.later hb2, hR2⟩
            clear hb2 hB2 hR2 X1
            go_wp2_with fail
            refine calls_abs3 w2 _ _ _ _ _ _ ?_
            intro W hb b1 b2 b3
            have X3 : Hid (Below w.heap.size w W ∧ Typ W w2.heap.size (some ⟨w.heap.size, 0, none⟩) n n q s (some ⟨w1.heap.size, 0, none⟩) n' n' q' s' ∧
                Typ W (w2.heap.size + 1) (some ⟨w.heap.size, 0, none⟩) u n q s none 0 0 q' s' ∧ Typ W (w2.heap.size + 1 + 1) (some ⟨w.heap.size, u, none⟩) (n - u) (n - u) (fun i => q (u + i)) (fun i => s (u + i)) (some ⟨w1.heap.size, 0, none⟩) n' n' q' s' ∧ Row W w.heap.size n q s ∧ Row W w1.heap.size n' q' s') := by
              obtain ⟨x1, x2, x3⟩ := X2.out
              have y2 := x2.later hb
              have y3 := x3.later hb
              exact ⟨later x1 hb, ⟨b1 15, b1 16, cmps_of_row y2 _ (Nat.le_refl _), cmps_of_row y3 _ (Nat.le_refl _)⟩, ⟨b2 15, b2 16, cmps_of_row y2 _ (by omega), .inl rfl⟩, ⟨b3 15, b3 16, cmps_back y2 _ _ (fun h => by first | rfl | omega), cmps_of_row y3 _ (Nat.le_refl _)⟩, y2, y3⟩
            clear hb b1 b2 b3 X2
            refine (find_add k w2.heap.size (some ⟨w.heap.size, 0, none⟩) (n) (n) (q) (s) (some ⟨w1.heap.size, 0, none⟩) (n') (n') q' s' name (by omega) (by omega) W X3.out.2.1 HN.out HA.out.1 HA.out.2.1 HA.out.2.2).mono ?_
            rintro e w4 ⟨rfl, hb⟩
            have X4 : Hid (Below w.heap.size w w4 ∧ Typ w4 w2.heap.size (some ⟨w.heap.size, 0, none⟩) n n q s (some ⟨w1.heap.size, 0, none⟩) n' n' q' s' ∧
                Typ w4 (w2.heap.size + 1) (some ⟨w.heap.size, 0, none⟩) u n q s none 0 0 q' s' ∧ Typ w4 (w2.heap.size + 1 + 1) (some ⟨w.heap.size, u, none⟩) (n - u) (n - u) (fun i => q (u + i)) (fun i => s (u + i)) (some ⟨w1.heap.size, 0, none⟩) n' n' q' s' ∧ Row w4 w.heap.size n q s ∧ Row w4 w1.heap.size n' q' s') :=
              ⟨later X3.out.1 hb, X3.out.2.1.later hb, X3.out.2.2.1.later hb, X3.out.2.2.2.1.later hb, X3.out.2.2.2.2.1.later hb, X3.out.2.2.2.2.2.later hb⟩
            clear hb X3
            go_wp2_with fail
            refine (find_nil (w2.heap.size + 1) (some ⟨w.heap.size, 0, none⟩) (u) (n) (q) (s) (none) (0) (0) q' s' name (by omega) (by omega) w4 X4.out.2.2.1 (fun i hi => HN.out i (by omega)) (fun i hi => by omega)).mono ?_
            rintro e w5 ⟨rfl, hb⟩
            have X5 : Hid (Below w.heap.size w w5 ∧ Typ w5 w2.heap.size (some ⟨w.heap.size, 0, none⟩) n n q s (some ⟨w1.heap.size, 0, none⟩) n' n' q' s' ∧
                Typ w5 (w2.heap.size + 1) (some ⟨w.heap.size, 0, none⟩) u n q s none 0 0 q' s' ∧ Typ w5 (w2.heap.size + 1 + 1) (some ⟨w.heap.size, u, none⟩) (n - u) (n - u) (fun i => q (u + i)) (fun i => s (u + i)) (some ⟨w1.heap.size, 0, none⟩) n' n' q' s' ∧ Row w5 w.heap.size n q s ∧ Row w5 w1.heap.size n' q' s') :=
              ⟨later X4.out.1 hb, X4.out.2.1.later hb, X4.out.2.2.1.later hb, X4.out.2.2.2.1.later hb, X4.out.2.2.2.2.1.later hb, X4.out.2.2.2.2.2.later hb⟩
            clear hb X4
            go_wp2_with fail
            refine (find_add k (w2.heap.size + 1 + 1) (some ⟨w.heap.size, u, none⟩) (n - u) (n - u) (fun i => q (u + i)) (fun i => s (u + i)) (some ⟨w1.heap.size, 0, none⟩) (n') (n') q' s' name (by omega) (by omega) w5 X5.out.2.2.2.1 (fun i hi => HN.out (u + i) (by omega)) HA.out.1 HA.out.2.1 HA.out.2.2).mono ?_
            rintro e w6 ⟨rfl, hb⟩
            have X6 : Hid (Below w.heap.size w w6 ∧ Typ w6 w2.heap.size (some ⟨w.heap.size, 0, none⟩) n n q s (some ⟨w1.heap.size, 0, none⟩) n' n' q' s' ∧
                Typ w6 (w2.heap.size + 1) (some ⟨w.heap.size, 0, none⟩) u n q s none 0 0 q' s' ∧ Typ w6 (w2.heap.size + 1 + 1) (some ⟨w.heap.size, u, none⟩) (n - u) (n - u) (fun i => q (u + i)) (fun i => s (u + i)) (some ⟨w1.heap.size, 0, none⟩) n' n' q' s' ∧ Row w6 w.heap.size n q s ∧ Row w6 w1.heap.size n' q' s') :=
              ⟨later X5.out.1 hb, X5.out.2.1.later hb, X5.out.2.2.1.later hb, X5.out.2.2.2.1.later hb, X5.out.2.2.2.2.1.later hb, X5.out.2.2.2.2.2.later hb⟩
            clear hb X5
            have hcell := (X6.out.2.2.2.2.2 k HA.out.1).2.1
            have hq : ((s' k).toList == name.toList) = true := HA.out.2.1
            have h37 := neq37
            go_wp2_with fail
            refine (has_any a n c s name false (by omega) w6 (H.out.1.later X6.out.1) (.inr ⟨rfl, HN.out⟩)).mono ?_
            rintro e w' ⟨rfl, rfl⟩
            go_wp2_with fail
            refine (has_any a' n' c' s' name true (by omega) _ (H.out.2.later X6.out.1) (.inl ⟨rfl, k, HA.out.1, HA.out.2.1⟩)).mono ?_
            rintro e w' ⟨rfl, rfl⟩
            go_wp2_with fail
            go_ret
            exact ⟨rfl, X6.out.1⟩
          · have HA : Hid (∀ i, i < n' → eqS (s' i) name = false) := hno
            clear hno
            refine (comps_any a n c s (by omega) w H.out.1).mono ?_
            rintro e w1 ⟨q, rfl, hb1, hB1, hR1⟩
            have X1 : Hid (Below w.heap.size w w1 ∧ Row w1 w.heap.size n q s) := ⟨hb1, hR1⟩
            clear hb1 hB1 hR1
            go_wp2_with fail
            refine (comps_any a' n' c' s' (by omega) w1 (H.out.2.later X1.out.1)).mono ?_
            rintro e w2 ⟨q', rfl, hb2, hB2, hR2⟩
            have X2 : Hid (Below w.heap.size w w2 ∧ Row w2 w.heap.size n q s ∧ Row w2 w1.heap.size n' q' s') := ⟨later X1.out.1 hb2, X1.out.2.later hb2, hR2⟩
            clear hb2 hB2 hR2 X1
            go_wp2_with fail
            refine calls_abs3 w2 _ _ _ _ _ _ ?_
            intro W hb b1 b2 b3
            have X3 : Hid (Below w.heap.size w W ∧ Typ W w2.heap.size (some ⟨w.heap.size, 0, none⟩) n n q s (some ⟨w1.heap.size, 0, none⟩) n' n' q' s' ∧
                Typ W (w2.heap.size + 1) (some ⟨w.heap.size, 0, none⟩) u n q s none 0 0 q' s' ∧ Typ W (w2.heap.size + 1 + 1) (some ⟨w.heap.size, u, none⟩) (n - u) (n - u) (fun i => q (u + i)) (fun i => s (u + i)) (some ⟨w1.heap.size, 0, none⟩) n' n' q' s' ∧ Row W w.heap.size n q s ∧ Row W w1.heap.size n' q' s') := by
              obtain ⟨x1, x2, x3⟩ := X2.out
              have y2 := x2.later hb
              have y3 := x3.later hb
              exact ⟨later x1 hb, ⟨b1 15, b1 16, cmps_of_row y2 _ (Nat.le_refl _), cmps_of_row y3 _ (Nat.le_refl _)⟩, ⟨b2 15, b2 16, cmps_of_row y2 _ (by omega), .inl rfl⟩, ⟨b3 15, b3 16, cmps_back y2 _ _ (fun h => by first | rfl | omega), cmps_of_row y3 _ (Nat.le_refl _)⟩, y2, y3⟩
            clear hb b1 b2 b3 X2
            refine (find_nil w2.heap.size (some ⟨w.heap.size, 0, none⟩) (n) (n) (q) (s) (some ⟨w1.heap.size, 0, none⟩) (n') (n') q' s' name (by omega) (by omega) W X3.out.2.1 HN.out HA.out).mono ?_
            rintro e w4 ⟨rfl, hb⟩
            have X4 : Hid (Below w.heap.size w w4 ∧ Typ w4 w2.heap.size (some ⟨w.heap.size, 0, none⟩) n n q s (some ⟨w1.heap.size, 0, none⟩) n' n' q' s' ∧
                Typ w4 (w2.heap.size + 1) (some ⟨w.heap.size, 0, none⟩) u n q s none 0 0 q' s' ∧ Typ w4 (w2.heap.size + 1 + 1) (some ⟨w.heap.size, u, none⟩) (n - u) (n - u) (fun i => q (u + i)) (fun i => s (u + i)) (some ⟨w1.heap.size, 0, none⟩) n' n' q' s' ∧ Row w4 w.heap.size n q s ∧ Row w4 w1.heap.size n' q' s') :=
              ⟨later X3.out.1 hb, X3.out.2.1.later hb, X3.out.2.2.1.later hb, X3.out.2.2.2.1.later hb, X3.out.2.2.2.2.1.later hb, X3.out.2.2.2.2.2.later hb⟩
            clear hb X3
            go_wp2_with fail
            refine (find_nil (w2.heap.size + 1) (some ⟨w.heap.size, 0, none⟩) (u) (n) (q) (s) (none) (0) (0) q' s' name (by omega) (by omega) w4 X4.out.2.2.1 (fun i hi => HN.out i (by omega)) (fun i hi => by omega)).mono ?_
            rintro e w5 ⟨rfl, hb⟩
            have X5 : Hid (Below w.heap.size w w5 ∧ Typ w5 w2.heap.size (some ⟨w.heap.size, 0, none⟩) n n q s (some ⟨w1.heap.size, 0, none⟩) n' n' q' s' ∧
                Typ w5 (w2.heap.size + 1) (some ⟨w.heap.size, 0, none⟩) u n q s none 0 0 q' s' ∧ Typ w5 (w2.heap.size + 1 + 1) (some ⟨w.heap.size, u, none⟩) (n - u) (n - u) (fun i => q (u + i)) (fun i => s (u + i)) (some ⟨w1.heap.size, 0, none⟩) n' n' q' s' ∧ Row w5 w.heap.size n q s ∧ Row w5 w1.heap.size n' q' s') :=
              ⟨later X4.out.1 hb, X4.out.2.1.later hb, X4.out.2.2.1.later hb, X4.out.2.2.2.1.later hb, X4.out.2.2.2.2.1.later hb, X4.out.2.2.2.2.2.later hb⟩
            clear hb X4
            go_wp2_with fail
            refine (find_nil (w2.heap.size + 1 + 1) (some ⟨w.heap.size, u, none⟩) (n - u) (n - u) (fun i => q (u + i)) (fun i => s (u + i)) (some ⟨w1.heap.size, 0, none⟩) (n') (n') q' s' name (by omega) (by omega) w5 X5.out.2.2.2.1 (fun i hi => HN.out (u + i) (by omega)) HA.out).mono ?_
            rintro e w6 ⟨rfl, hb⟩
            have X6 : Hid (Below w.heap.size w w6 ∧ Typ w6 w2.heap.size (some ⟨w.heap.size, 0, none⟩) n n q s (some ⟨w1.heap.size, 0, none⟩) n' n' q' s' ∧
                Typ w6 (w2.heap.size + 1) (some ⟨w.heap.size, 0, none⟩) u n q s none 0 0 q' s' ∧ Typ w6 (w2.heap.size + 1 + 1) (some ⟨w.heap.size, u, none⟩) (n - u) (n - u) (fun i => q (u + i)) (fun i => s (u + i)) (some ⟨w1.heap.size, 0, none⟩) n' n' q' s' ∧ Row w6 w.heap.size n q s ∧ Row w6 w1.heap.size n' q' s') :=
              ⟨later X5.out.1 hb, X5.out.2.1.later hb, X5.out.2.2.1.later hb, X5.out.2.2.2.1.later hb, X5.out.2.2.2.2.1.later hb, X5.out.2.2.2.2.2.later hb⟩
            clear hb X5
            have h37 := neq37
            go_wp2_with fail
            refine (has_any a n c s name false (by omega) w6 (H.out.1.later X6.out.1) (.inr ⟨rfl, HN.out⟩)).mono ?_
            rintro e w' ⟨rfl, rfl⟩
            go_wp2_with fail
            refine (has_any a' n' c' s' name false (by omega) _ (H.out.2.later X6.out.1) (.inr ⟨rfl, HA.out⟩)).mono ?_
            rintro e w' ⟨rfl, rfl⟩
            go_wp2_with fail
            go_ret
            exact ⟨rfl, X6.out.1⟩
      · obtain rfl : n = u := by omega
        rcases first_or_none n (fun i => eqS (s i) name) with ⟨k, hkn, hkt, hkl⟩ | hno
        · have HA : Hid (k < n ∧ eqS (s k) name = true ∧ ∀ i, i < k → eqS (s i) name = false) := ⟨hkn, hkt, hkl⟩
          clear hkn hkt hkl
          by_cases hku : k < n
          · have HK : Hid (k < n) := hku
            clear hku
            refine (comps_any a n c s (by omega) w H.out.1).mono ?_
            rintro e w1 ⟨q, rfl, hb1, hB1, hR1⟩
            have X1 : Hid (Below w.heap.size w w1 ∧ Row w1 w.heap.size n q s) := ⟨hb1, hR1⟩
            clear hb1 hB1 hR1
            go_wp2_with fail
            refine (comps_any a' n' c' s' (by omega) w1 (H.out.2.later X1.out.1)).mono ?_
            rintro e w2 ⟨q', rfl, hb2, hB2, hR2⟩
            have X2 : Hid (Below w.heap.size w w2 ∧ Row w2 w.heap.size n q s ∧ Row w2 w1.heap.size n' q' s') := ⟨later X1.out.1 hb2, X1.out.2.later hb2, hR2⟩
            clear hb2 hB2 hR2 X1
            go_wp2_with fail
            refine calls_abs3 w2 _ _ _ _ _ _ ?_
            intro W hb b1 b2 b3
            have X3 : Hid (Below w.heap.size w W ∧ Typ W w2.heap.size (some ⟨w.heap.size, 0, none⟩) n n q s (some ⟨w1.heap.size, 0, none⟩) n' n' q' s' ∧
                Typ W (w2.heap.size + 1) (some ⟨w.heap.size, 0, none⟩) n n q s none 0 0 q' s' ∧ Typ W (w2.heap.size + 1 + 1) (some ⟨w.heap.size, 0, none⟩) (n - n) (n - n) (fun i => q (n + i)) (fun i => s (n + i)) (some ⟨w1.heap.size, 0, none⟩) n' n' q' s' ∧ Row W w.heap.size n q s ∧ Row W w1.heap.size n' q' s') := by
              obtain ⟨x1, x2, x3⟩ := X2.out
              have y2 := x2.later hb
              have y3 := x3.later hb
              exact ⟨later x1 hb, ⟨b1 15, b1 16, cmps_of_row y2 _ (Nat.le_refl _), cmps_of_row y3 _ (Nat.le_refl _)⟩, ⟨b2 15, b2 16, cmps_of_row y2 _ (by omega), .inl rfl⟩, ⟨by rw [Nat.sub_self]; exact b3 15, b3 16, cmps_back y2 _ _ (fun h => by first | rfl | omega), cmps_of_row y3 _ (Nat.le_refl _)⟩, y2, y3⟩
            clear hb b1 b2 b3 X2
            refine (find_hit k w2.heap.size (some ⟨w.heap.size, 0, none⟩) (n) (n) (q) (s) (some ⟨w1.heap.size, 0, none⟩) (n') (n') q' s' name (by omega) (by omega) W X3.out.2.1 HA.out.1 HA.out.2.1 HA.out.2.2).mono ?_
            rintro e w4 ⟨rfl, hb⟩
            have X4 : Hid (Below w.heap.size w w4 ∧ Typ w4 w2.heap.size (some ⟨w.heap.size, 0, none⟩) n n q s (some ⟨w1.heap.size, 0, none⟩) n' n' q' s' ∧
                Typ w4 (w2.heap.size + 1) (some ⟨w.heap.size, 0, none⟩) n n q s none 0 0 q' s' ∧ Typ w4 (w2.heap.size + 1 + 1) (some ⟨w.heap.size, 0, none⟩) (n - n) (n - n) (fun i => q (n + i)) (fun i => s (n + i)) (some ⟨w1.heap.size, 0, none⟩) n' n' q' s' ∧ Row w4 w.heap.size n q s ∧ Row w4 w1.heap.size n' q' s') :=
              ⟨later X3.out.1 hb, X3.out.2.1.later hb, X3.out.2.2.1.later hb, X3.out.2.2.2.1.later hb, X3.out.2.2.2.2.1.later hb, X3.out.2.2.2.2.2.later hb⟩
            clear hb X3
            go_wp2_with fail
            refine (find_hit k (w2.heap.size + 1) (some ⟨w.heap.size, 0, none⟩) (n) (n) (q) (s) (none) (0) (0) q' s' name (by omega) (by omega) w4 X4.out.2.2.1 HK.out HA.out.2.1 HA.out.2.2).mono ?_
            rintro e w5 ⟨rfl, hb⟩
            have X5 : Hid (Below w.heap.size w w5 ∧ Typ w5 w2.heap.size (some ⟨w.heap.size, 0, none⟩) n n q s (some ⟨w1.heap.size, 0, none⟩) n' n' q' s' ∧
                Typ w5 (w2.heap.size + 1) (some ⟨w.heap.size, 0, none⟩) n n q s none 0 0 q' s' ∧ Typ w5 (w2.heap.size + 1 + 1) (some ⟨w.heap.size, 0, none⟩) (n - n) (n - n) (fun i => q (n + i)) (fun i => s (n + i)) (some ⟨w1.heap.size, 0, none⟩) n' n' q' s' ∧ Row w5 w.heap.size n q s ∧ Row w5 w1.heap.size n' q' s') :=
              ⟨later X4.out.1 hb, X4.out.2.1.later hb, X4.out.2.2.1.later hb, X4.out.2.2.2.1.later hb, X4.out.2.2.2.2.1.later hb, X4.out.2.2.2.2.2.later hb⟩
            clear hb X4
            have hcell := (X5.out.2.2.2.2.1 k HA.out.1).2.1
            have hq : ((s k).toList == name.toList) = true := HA.out.2.1
            have h37 := neq37
            go_wp2_with fail
            refine (has_any a n c s name true (by omega) w5 (H.out.1.later X5.out.1) (.inl ⟨rfl, k, HA.out.1, HA.out.2.1⟩)).mono ?_
            rintro e w' ⟨rfl, rfl⟩
            go_wp2_with fail
            go_ret
            exact ⟨rfl, X5.out.1⟩
          · exact absurd HA.out.1 hku
        · have HN : Hid (∀ i, i < n → eqS (s i) name = false) := hno
          clear hno
          rcases first_or_none n' (fun i => eqS (s' i) name) with ⟨k, hkn, hkt, hkl⟩ | hno
          · have HA : Hid (k < n' ∧ eqS (s' k) name = true ∧ ∀ i, i < k → eqS (s' i) name = false) := ⟨hkn, hkt, hkl⟩
            clear hkn hkt hkl
            refine (comps_any a n c s (by omega) w H.out.1).mono ?_
            rintro e w1 ⟨q, rfl, hb1, hB1, hR1⟩
            have X1 : Hid (Below w.heap.size w w1 ∧ Row w1 w.heap.size n q s) := ⟨hb1, hR1⟩
            clear hb1 hB1 hR1
            go_wp2_with fail
            refine (comps_any a' n' c' s' (by omega) w1 (H.out.2.later X1.out.1)).mono ?_
            rintro e w2 ⟨q', rfl, hb2, hB2, hR2⟩
            have X2 : Hid (Below w.heap.size w w2 ∧ Row w2 w.heap.size n q s ∧ Row w2 w1.heap.size n' q' s') := ⟨later X1.out.1 hb2, X1.out.2.later hb2, hR2⟩
            clear hb2 hB2 hR2 X1
            go_wp2_with fail
            refine calls_abs3 w2 _ _ _ _ _ _ ?_
            intro W hb b1 b2 b3
            have X3 : Hid (Below w.heap.size w W ∧ Typ W w2.heap.size (some ⟨w.heap.size, 0, none⟩) n n q s (some ⟨w1.heap.size, 0, none⟩) n' n' q' s' ∧
                Typ W (w2.heap.size + 1) (some ⟨w.heap.size, 0, none⟩) n n q s none 0 0 q' s' ∧ Typ W (w2.heap.size + 1 + 1) (some ⟨w.heap.size, 0, none⟩) (n - n) (n - n) (fun i => q (n + i)) (fun i => s (n + i)) (some ⟨w1.heap.size, 0, none⟩) n' n' q' s' ∧ Row W w.heap.size n q s ∧ Row W w1.heap.size n' q' s') := by
              obtain ⟨x1, x2, x3⟩ := X2.out
              have y2 := x2.later hb
              have y3 := x3.later hb
              exact ⟨later x1 hb, ⟨b1 15, b1 16, cmps_of_row y2 _ (Nat.le_refl _), cmps_of_row y3 _ (Nat.le_refl _)⟩, ⟨b2 15, b2 16, cmps_of_row y2 _ (by omega), .inl rfl⟩, ⟨by rw [Nat.sub_self]; exact b3 15, b3 16, cmps_back y2 _ _ (fun h => by first | rfl | omega), cmps_of_row y3 _ (Nat.le_refl _)⟩, y2, y3⟩
            clear hb b1 b2 b3 X2
            refine (find_add k w2.heap.size (some ⟨w.heap.size, 0, none⟩) (n) (n) (q) (s) (some ⟨w1.heap.size, 0, none⟩) (n') (n') q' s' name (by omega) (by omega) W X3.out.2.1 HN.out HA.out.1 HA.out.2.1 HA.out.2.2).mono ?_
            rintro e w4 ⟨rfl, hb⟩
            have X4 : Hid (Below w.heap.size w w4 ∧ Typ w4 w2.heap.size (some ⟨w.heap.size, 0, none⟩) n n q s (some ⟨w1.heap.size, 0, none⟩) n' n' q' s' ∧
                Typ w4 (w2.heap.size + 1) (some ⟨w.heap.size, 0, none⟩) n n q s none 0 0 q' s' ∧ Typ w4 (w2.heap.size + 1 + 1) (some ⟨w.heap.size, 0, none⟩) (n - n) (n - n) (fun i => q (n + i)) (fun i => s (n + i)) (some ⟨w1.heap.size, 0, none⟩) n' n' q' s' ∧ Row w4 w.heap.size n q s ∧ Row w4 w1.heap.size n' q' s') :=
              ⟨later X3.out.1 hb, X3.out.2.1.later hb, X3.out.2.2.1.later hb, X3.out.2.2.2.1.later hb, X3.out.2.2.2.2.1.later hb, X3.out.2.2.2.2.2.later hb⟩
            clear hb X3
            go_wp2_with fail
            refine (find_nil (w2.heap.size + 1) (some ⟨w.heap.size, 0, none⟩) (n) (n) (q) (s) (none) (0) (0) q' s' name (by omega) (by omega) w4 X4.out.2.2.1 (fun i hi => HN.out i (by omega)) (fun i hi => by omega)).mono ?_
            rintro e w5 ⟨rfl, hb⟩
            have X5 : Hid (Below w.heap.size w w5 ∧ Typ w5 w2.heap.size (some ⟨w.heap.size, 0, none⟩) n n q s (some ⟨w1.heap.size, 0, none⟩) n' n' q' s' ∧
                Typ w5 (w2.heap.size + 1) (some ⟨w.heap.size, 0, none⟩) n n q s none 0 0 q' s' ∧ Typ w5 (w2.heap.size + 1 + 1) (some ⟨w.heap.size, 0, none⟩) (n - n) (n - n) (fun i => q (n + i)) (fun i => s (n + i)) (some ⟨w1.heap.size, 0, none⟩) n' n' q' s' ∧ Row w5 w.heap.size n q s ∧ Row w5 w1.heap.size n' q' s') :=
              ⟨later X4.out.1 hb, X4.out.2.1.later hb, X4.out.2.2.1.later hb, X4.out.2.2.2.1.later hb, X4.out.2.2.2.2.1.later hb, X4.out.2.2.2.2.2.later hb⟩
            clear hb X4
            go_wp2_with fail
            refine (find_add k (w2.heap.size + 1 + 1) (some ⟨w.heap.size, 0, none⟩) (n - n) (n - n) (fun i => q (n + i)) (fun i => s (n + i)) (some ⟨w1.heap.size, 0, none⟩) (n') (n') q' s' name (by omega) (by omega) w5 X5.out.2.2.2.1 (fun i hi => HN.out (n + i) (by omega)) HA.out.1 HA.out.2.1 HA.out.2.2).mono ?_
            rintro e w6 ⟨rfl, hb⟩
            have X6 : Hid (Below w.heap.size w w6 ∧ Typ w6 w2.heap.size (some ⟨w.heap.size, 0, none⟩) n n q s (some ⟨w1.heap.size, 0, none⟩) n' n' q' s' ∧
                Typ w6 (w2.heap.size + 1) (some ⟨w.heap.size, 0, none⟩) n n q s none 0 0 q' s' ∧ Typ w6 (w2.heap.size + 1 + 1) (some ⟨w.heap.size, 0, none⟩) (n - n) (n - n) (fun i => q (n + i)) (fun i => s (n + i)) (some ⟨w1.heap.size, 0, none⟩) n' n' q' s' ∧ Row w6 w.heap.size n q s ∧ Row w6 w1.heap.size n' q' s') :=
              ⟨later X5.out.1 hb, X5.out.2.1.later hb, X5.out.2.2.1.later hb, X5.out.2.2.2.1.later hb, X5.out.2.2.2.2.1.later hb, X5.out.2.2.2.2.2.later hb⟩
            clear hb X5
            have hcell := (X6.out.2.2.2.2.2 k HA.out.1).2.1
            have hq : ((s' k).toList == name.toList) = true := HA.out.2.1
            have h37 := neq37
            go_wp2_with fail
            refine (has_any a n c s name false (by omega) w6 (H.out.1.later X6.out.1) (.inr ⟨rfl, HN.out⟩)).mono ?_
            rintro e w' ⟨rfl, rfl⟩
            go_wp2_with fail
            refine (has_any a' n' c' s' name true (by omega) _ (H.out.2.later X6.out.1) (.inl ⟨rfl, k, HA.out.1, HA.out.2.1⟩)).mono ?_
            rintro e w' ⟨rfl, rfl⟩
            go_wp2_with fail
            go_ret
            exact ⟨rfl, X6.out.1⟩
          · have HA : Hid (∀ i, i < n' → eqS (s' i) name = false) := hno
            clear hno
            refine (comps_any a n c s (by omega) w H.out.1).mono ?_
            rintro e w1 ⟨q, rfl, hb1, hB1, hR1⟩
            have X1 : Hid (Below w.heap.size w w1 ∧ Row w1 w.heap.size n q s) := ⟨hb1, hR1⟩
            clear hb1 hB1 hR1
            go_wp2_with fail
            refine (comps_any a' n' c' s' (by omega) w1 (H.out.2.later X1.out.1)).mono ?_
            rintro e w2 ⟨q', rfl, hb2, hB2, hR2⟩
            have X2 : Hid (Below w.heap.size w w2 ∧ Row w2 w.heap.size n q s ∧ Row w2 w1.heap.size n' q' s') := ⟨later X1.out.1 hb2, X1.out.2.later hb2, hR2⟩
            clear hb2 hB2 hR2 X1
            go_wp2_with fail
            refine calls_abs3 w2 _ _ _ _ _ _ ?_
            intro W hb b1 b2 b3
            have X3 : Hid (Below w.heap.size w W ∧ Typ W w2.heap.size (some ⟨w.heap.size, 0, none⟩) n n q s (some ⟨w1.heap.size, 0, none⟩) n' n' q' s' ∧
                Typ W (w2.heap.size + 1) (some ⟨w.heap.size, 0, none⟩) n n q s none 0 0 q' s' ∧ Typ W (w2.heap.size + 1 + 1) (some ⟨w.heap.size, 0, none⟩) (n - n) (n - n) (fun i => q (n + i)) (fun i => s (n + i)) (some ⟨w1.heap.size, 0, none⟩) n' n' q' s' ∧ Row W w.heap.size n q s ∧ Row W w1.heap.size n' q' s') := by
              obtain ⟨x1, x2, x3⟩ := X2.out
              have y2 := x2.later hb
              have y3 := x3.later hb
              exact ⟨later x1 hb, ⟨b1 15, b1 16, cmps_of_row y2 _ (Nat.le_refl _), cmps_of_row y3 _ (Nat.le_refl _)⟩, ⟨b2 15, b2 16, cmps_of_row y2 _ (by omega), .inl rfl⟩, ⟨by rw [Nat.sub_self]; exact b3 15, b3 16, cmps_back y2 _ _ (fun h => by first | rfl | omega), cmps_of_row y3 _ (Nat.le_refl _)⟩, y2, y3⟩
            clear hb b1 b2 b3 X2
            refine (find_nil w2.heap.size (some ⟨w.heap.size, 0, none⟩) (n) (n) (q) (s) (some ⟨w1.heap.size, 0, none⟩) (n') (n') q' s' name (by omega) (by omega) W X3.out.2.1 HN.out HA.out).mono ?_
            rintro e w4 ⟨rfl, hb⟩
            have X4 : Hid (Below w.heap.size w w4 ∧ Typ w4 w2.heap.size (some ⟨w.heap.size, 0, none⟩) n n q s (some ⟨w1.heap.size, 0, none⟩) n' n' q' s' ∧
                Typ w4 (w2.heap.size + 1) (some ⟨w.heap.size, 0, none⟩) n n q s none 0 0 q' s' ∧ Typ w4 (w2.heap.size + 1 + 1) (some ⟨w.heap.size, 0, none⟩) (n - n) (n - n) (fun i => q (n + i)) (fun i => s (n + i)) (some ⟨w1.heap.size, 0, none⟩) n' n' q' s' ∧ Row w4 w.heap.size n q s ∧ Row w4 w1.heap.size n' q' s') :=
              ⟨later X3.out.1 hb, X3.out.2.1.later hb, X3.out.2.2.1.later hb, X3.out.2.2.2.1.later hb, X3.out.2.2.2.2.1.later hb, X3.out.2.2.2.2.2.later hb⟩
            clear hb X3
            go_wp2_with fail
            refine (find_nil (w2.heap.size + 1) (some ⟨w.heap.size, 0, none⟩) (n) (n) (q) (s) (none) (0) (0) q' s' name (by omega) (by omega) w4 X4.out.2.2.1 (fun i hi => HN.out i (by omega)) (fun i hi => by omega)).mono ?_
            rintro e w5 ⟨rfl, hb⟩
            have X5 : Hid (Below w.heap.size w w5 ∧ Typ w5 w2.heap.size (some ⟨w.heap.size, 0, none⟩) n n q s (some ⟨w1.heap.size, 0, none⟩) n' n' q' s' ∧
                Typ w5 (w2.heap.size + 1) (some ⟨w.heap.size, 0, none⟩) n n q s none 0 0 q' s' ∧ Typ w5 (w2.heap.size + 1 + 1) (some ⟨w.heap.size, 0, none⟩) (n - n) (n - n) (fun i => q (n + i)) (fun i => s (n + i)) (some ⟨w1.heap.size, 0, none⟩) n' n' q' s' ∧ Row w5 w.heap.size n q s ∧ Row w5 w1.heap.size n' q' s') :=
              ⟨later X4.out.1 hb, X4.out.2.1.later hb, X4.out.2.2.1.later hb, X4.out.2.2.2.1.later hb, X4.out.2.2.2.2.1.later hb, X4.out.2.2.2.2.2.later hb⟩
            clear hb X4
            go_wp2_with fail
            refine (find_nil (w2.heap.size + 1 + 1) (some ⟨w.heap.size, 0, none⟩) (n - n) (n - n) (fun i => q (n + i)) (fun i => s (n + i)) (some ⟨w1.heap.size, 0, none⟩) (n') (n') q' s' name (by omega) (by omega) w5 X5.out.2.2.2.1 (fun i hi => HN.out (n + i) (by omega)) HA.out).mono ?_
            rintro e w6 ⟨rfl, hb⟩
            have X6 : Hid (Below w.heap.size w w6 ∧ Typ w6 w2.heap.size (some ⟨w.heap.size, 0, none⟩) n n q s (some ⟨w1.heap.size, 0, none⟩) n' n' q' s' ∧
                Typ w6 (w2.heap.size + 1) (some ⟨w.heap.size, 0, none⟩) n n q s none 0 0 q' s' ∧ Typ w6 (w2.heap.size + 1 + 1) (some ⟨w.heap.size, 0, none⟩) (n - n) (n - n) (fun i => q (n + i)) (fun i => s (n + i)) (some ⟨w1.heap.size, 0, none⟩) n' n' q' s' ∧ Row w6 w.heap.size n q s ∧ Row w6 w1.heap.size n' q' s') :=
              ⟨later X5.out.1 hb, X5.out.2.1.later hb, X5.out.2.2.1.later hb, X5.out.2.2.2.1.later hb, X5.out.2.2.2.2.1.later hb, X5.out.2.2.2.2.2.later hb⟩
            clear hb X5
            have h37 := neq37
            go_wp2_with fail
            refine (has_any a n c s name false (by omega) w6 (H.out.1.later X6.out.1) (.inr ⟨rfl, HN.out⟩)).mono ?_
            rintro e w' ⟨rfl, rfl⟩
            go_wp2_with fail
            refine (has_any a' n' c' s' name false (by omega) _ (H.out.2.later X6.out.1) (.inr ⟨rfl, HA.out⟩)).mono ?_
            rintro e w' ⟨rfl, rfl⟩
            go_wp2_with fail
            go_ret
            exact ⟨rfl, X6.out.1⟩

end Go.Proofs.Qxb6608862a
