import Derived.Test.Qxb6608862aHit
namespace Go.Proofs.Qxb6608862a
open Go.RowKit

theorem calls_abs1 {P : Program} {f : FuncId} {args : Array Value} {Q : Ending → World → Prop} (w2 : World) (c1 : Array Value) (t1 : TypeId)
    (k : ∀ W, Below w2.heap.size w2 W → (∀ j, W.cell? ⟨w2.heap.size, j, none⟩ = c1[j]?) → Calls P f args W Q) :
    Calls P f args (w2.alloc (.cells c1 t1)) Q := by
  refine k _ (by go_grown) (fun j => ?_)
  simp [go_sem]

/-- Find, whatever it answers: a pointer. -/
theorem find_some (p : Nat) (a : Option Addr) (n c : Nat) (q : Nat → Nat) (s : Nat → ByteArray) (a' : Option Addr) (n' c' : Nat) (q' : Nat → Nat) (s' : Nat → ByteArray) (name : ByteArray) (hn : n ≤ 2000000) (hn' : n' ≤ 2000000) (w : World)
    (T : Typ w p a n c q s a' n' c' q' s') :
    Calls Try.prog 13 #[.pointer (some ⟨p, 0, none⟩), .string name] w fun e w' => ∃ r, e = .returned (.pointer r) ∧ Below w.heap.size w w' := by
  refine (find_any p a n c q s a' n' c' q' s' name hn hn' w T).mono ?_
  rintro e w' ⟨hb, ⟨j, hj, rfl, h1, h2⟩ | ⟨_, j, hj, rfl, h1, h2⟩ | ⟨_, _, rfl⟩⟩
  all_goals exact ⟨_, rfl, hb⟩

/-- The pointers of a row, as the cells that an append reads. -/
def ptrs (q : Nat → Nat) (m : Nat) : List Value := (List.range m).map fun i => .pointer (some ⟨q i, 0, none⟩)
theorem ptrs_len (q : Nat → Nat) (m : Nat) : (ptrs q m).length = m * 1 := by simp [ptrs]
theorem ptrs_one (q : Nat → Nat) (m : Nat) : ∀ u ∈ ptrs q m, u.oneCell' = true := by
  intro u hu
  simp [ptrs] at hu
  obtain ⟨x, _, rfl⟩ := hu
  rfl
theorem ptrs_get (q : Nat → Nat) (m j : Nat) (hj : j < m) : (ptrs q m)[j]? = some (.pointer (some ⟨q j, 0, none⟩)) := by simp [ptrs, hj]
theorem ptrs_cells {w W : World} {G n : Nat} {q : Nat → Nat} {s : Nat → ByteArray} (h : Row w G n q s) (hb : Below w.heap.size w W) (o m : Nat) (hm : o + m ≤ n) (x : Addr) (hx : 0 < m → x = ⟨G, o, none⟩) :
    ∀ j u, (ptrs (fun i => q (o + i)) m)[j]? = some u → W.cell? (x.add j) = some u := by
  intro j u hj
  have hjm : j < m := by
    rcases Nat.lt_or_ge j m with h | h
    · exact h
    · rw [List.getElem?_eq_none (by simp [ptrs, h])] at hj; cases hj
  rw [ptrs_get _ _ _ hjm] at hj
  cases hj
  rw [hx (by omega), show (⟨G, o, none⟩ : Addr).add j = ⟨G, o + j, none⟩ from by simp [Addr.add]]
  exact cell_later (h (o + j) (by omega)).1 hb
theorem grown_below {w W W' : World} {B : Nat} {e : TypeId} {size n : Nat} {v : Value} {xs : List Value} (hb : Below w.heap.size w W) (hg : W.grownBy W' v.ownBlock) (ho : W.ownsRow B e size v n xs) (hB : w.heap.size ≤ B) : Below w.heap.size w W' :=
  hb.grown hg hb.size (fun k e => by have := (ho.lt k e).1; omega)

/-- The row behind the insertion: which component stands at j, and its name. -/
def insQ (u x : Nat) (q : Nat → Nat) (j : Nat) : Nat := if j < u then q j else if j = u then x else q (j - 1)
def insS (u : Nat) (name : ByteArray) (s : Nat → ByteArray) (j : Nat) : ByteArray := if j < u then s j else if j = u then name else s (j - 1)

theorem ins_cmps {w : World} {G n u x B : Nat} {q : Nat → Nat} {s : Nat → ByteArray} {name : ByteArray} {v : Value} {m : Nat} (hm : m = n + 1) (hu : u ≤ n) (hr : Row w G n q s) (hx : w.cell? ⟨x, 0, none⟩ = some (.string name))
    (ho : w.ownsRow B 37 1 v m ((ptrs q u ++ [.pointer (some ⟨x, 0, none⟩)]) ++ ptrs (fun i => q (u + i)) (n - u))) : ∃ a c, v = .slice a (n + 1) c ∧ Cmps w a (n + 1) (insQ u x q) (insS u name s) := by
  subst hm
  obtain ⟨h1, h2⟩ := ho
  rcases h2 with ⟨_, h⟩ | ⟨g, cap, cur, rfl, _, hh, hnc, _, hcs, htake⟩
  · omega
  · refine ⟨_, _, rfl, .inr ⟨g, 0, rfl, fun i hi => ?_⟩⟩
    rw [Nat.zero_add]
    have hc : w.cell? ⟨g, i, none⟩ = ((ptrs q u ++ [.pointer (some ⟨x, 0, none⟩)]) ++ ptrs (fun i => q (u + i)) (n - u))[i]? := by
      rw [← htake, List.getElem?_take_of_lt (by omega)]
      simp [World.cell?, hh]
    rw [hc]
    unfold insQ insS
    have lu : (ptrs q u).length = u := by simp [ptrs]
    by_cases h : i < u
    · rw [if_pos h, if_pos h, List.getElem?_append_left (by simp; omega), List.getElem?_append_left (by omega)]
      exact ⟨ptrs_get _ _ _ h, (hr i (by omega)).2.1⟩
    · rw [if_neg h, if_neg h]
      by_cases h' : i = u
      · subst h'
        rw [if_pos rfl, if_pos rfl, List.getElem?_append_left (by simp; omega), List.getElem?_append_right (by omega), lu]
        exact ⟨by simp, hx⟩
      · rw [if_neg h', if_neg h', List.getElem?_append_right (by simp; omega)]
        have e : i - (ptrs q u ++ [Value.pointer (some ⟨x, 0, none⟩)]).length = i - 1 - u := by simp [lu]; omega
        rw [e, ptrs_get _ _ _ (by omega), show u + (i - 1 - u) = i - 1 by omega]
        exact ⟨rfl, (hr (i - 1) (by omega)).2.1⟩

theorem insQ_lt {u x j : Nat} {q : Nat → Nat} (h : j < u) : insQ u x q j = q j := by unfold insQ; rw [if_pos h]
theorem insS_lt {u j : Nat} {name : ByteArray} {s : Nat → ByteArray} (h : j < u) : insS u name s j = s j := by unfold insS; rw [if_pos h]
theorem insQ_at {u x : Nat} {q : Nat → Nat} : insQ u x q u = x := by unfold insQ; rw [if_neg (Nat.lt_irrefl _), if_pos rfl]
theorem insS_at {u : Nat} {name : ByteArray} {s : Nat → ByteArray} : insS u name s u = name := by unfold insS; rw [if_neg (Nat.lt_irrefl _), if_pos rfl]

theorem Strs.take {w : World} {a : Option Addr} {n m : Nat} {s : Nat → ByteArray} (h : Strs w a n s) (hm : m ≤ n) : Strs w a m s := by
  rcases h with h | ⟨b, o, ha, hc⟩
  · exact .inl (by omega)
  · exact .inr ⟨b, o, ha, fun i hi => hc i (by omega)⟩

theorem Try.makeIns (n : Nat) (hn : n ≤ 2000000) (w : World) : (Instr.makeSlice 27 (.int .i64 0) (.int .i64 ((n : Int) + 1))).run Try.prog w = .ok (.slice (some ⟨w.heap.size, 0, none⟩) 0 (n + 1)) (w.alloc (.cells (madeCells #[.pointer none] (n + 1)) 37)) := by
  obtain ⟨i, hi, hz0, hz1, hz2⟩ := info_parts Try.info37
  have h := run_make (P := Try.prog) w 27 37 i _ Try.underlying27 hi hz0 .i64 .i64 0 ((n : Int) + 1) (by omega) (by omega) (by rw [hz2]; omega) (by omega)
  rw [hz1] at h
  simpa [Value.cells, show ((n : Int) + 1).toNat = n + 1 by omega] using h

theorem own0 (w : World) (o : Obj) (n : Nat) (hn : n ≤ 2000000) : ((w.alloc o).alloc (.cells (madeCells #[.pointer none] (n + 1)) 37)).ownsRow (w.heap.size + 1) 37 1 (.slice (some ⟨w.heap.size + 1, 0, none⟩) 0 (n + 1)) 0 [] := by
  have h := World.ownsRow_made (base := w.heap.size + 1) (e := 37) (size := 1) (w.alloc o) (madeCells #[.pointer none] (n + 1)) (n + 1) (by simp) (by unfold maxLen; omega) (by rw [size_madeCells]; omega)
  rw [World.size_alloc] at h
  exact h

set_option maxRecDepth 100000 in
set_option maxHeartbeats 4000000 in
theorem law6 (a a' : Option Addr) (n c n' c' : Nat) (s s' : Nat → ByteArray) (name : ByteArray) (cut : Int) (w : World) (hcap : n ≤ c) (H : Hid (Strs w a n s ∧ Strs w a' n' s')) :
    Calls Try.prog 6 #[.slice a n c, .slice a' n' c', .string name, .int .i64 cut] w fun e w' => e = .returned (.bool true) ∧ Below w.heap.size w w' := by
  go_enter Try.func6, Try.ntmps6
  go_wp2_with fail
  refine (bytes15_any a a' n c n' c' s s' name cut w H).mono ?_
  rintro e w' ⟨yb, rfl, rfl, hy⟩
  cases yb
  · go_wp2_with fail
    go_ret
    exact ⟨rfl, Below.refl _ _⟩
  obtain ⟨h1, h2⟩ := hy rfl
  clear hy
  go_wp2_with fail
  all_goals try (go_ret; exact ⟨rfl, Below.refl _ _⟩)
  go_loop [9, 10] (fun t i => ∃ (k : Nat) (z : Int), k ≤ n ∧ i = .int .i64 k ∧ t = .int .i64 z) (fun _ i => n - (intOf i).toNat)
  case atStart => exact ⟨0, _, Nat.zero_le _, rfl, rfl⟩
  case round =>
    obtain ⟨k, z, hk, rfl, rfl⟩ := hrel
    by_cases hlt : k < n
    · rcases H.out.1 with h | ⟨b, o, rfl, hc⟩
      · omega
      have h0 := hc k hlt
      clear hc
      go_wp2_with fail
      all_goals try (go_ret; exact ⟨rfl, Below.refl _ _⟩)
      all_goals
        go_round
        case rel => exact ⟨k + 1, _, by omega, by go_num, rfl⟩
        case measure => simp [intOf]; omega
    go_wp2_with fail
    go_loop [9, 11] (fun t i => ∃ (k : Nat) (z : Int), k ≤ n' ∧ i = .int .i64 k ∧ t = .int .i64 z) (fun _ i => n' - (intOf i).toNat)
    case atStart => exact ⟨0, _, Nat.zero_le _, rfl, rfl⟩
    case round =>
      obtain ⟨k', z', hk', rfl, rfl⟩ := hrel
      by_cases hlt' : k' < n'
      · rcases H.out.2 with h | ⟨b, o, rfl, hc⟩
        · omega
        have h0 := hc k' hlt'
        clear hc
        go_wp2_with fail
        all_goals try (go_ret; exact ⟨rfl, Below.refl _ _⟩)
        all_goals
          go_round
          case rel => exact ⟨k' + 1, _, by omega, by go_num, rfl⟩
          case measure => simp [intOf]; omega
      go_wp2_with fail
      all_goals try (go_ret; exact ⟨rfl, Below.refl _ _⟩)
      have hc0 : 0 ≤ cut := by omega
      have hc1 : cut ≤ n := by omega
      obtain ⟨u, rfl⟩ := Int.eq_ofNat_of_zero_le hc0
      have hu : u ≤ n := by omega
      refine (comps_any a n c s (by omega) w H.out.1).mono ?_
      rintro e w1 ⟨q, rfl, hb1, hB1, hR1⟩
      have X1 : Hid (Below w.heap.size w w1 ∧ Row w1 w.heap.size n q s) := ⟨hb1, hR1⟩
      clear hb1 hB1 hR1
      go_wp2_with fail
      refine (comps_any a' n' c' s' (by omega) w1 (H.out.2.later X1.out.1)).mono ?_
      rintro e w2 ⟨q', rfl, hb2, hB2, hR2⟩
      have X2 : Hid (Below w.heap.size w w2 ∧ Row w2 w.heap.size n q s ∧ Row w2 w1.heap.size n' q' s') := ⟨later X1.out.1 hb2, X1.out.2.later hb2, hR2⟩
      clear hb2 hB2 hR2 X1
      by_cases hul : u < n
      · rcases first_or_none u (fun i => eqS (s i) name) with ⟨k, hkn, hkt, hkl⟩ | hno
        · have HK : Hid (k < u) := hkn
          have HA : Hid (eqS (s k) name = true ∧ ∀ i, i < k → eqS (s i) name = false) := ⟨hkt, hkl⟩
          clear hkn hkt hkl
          go_wp2_with fail
          refine calls_abs1 w2 _ _ ?_
          intro W hb b1
          have X3 : Hid (Below w.heap.size w W ∧ Typ W w2.heap.size (some ⟨w.heap.size, 0, none⟩) n n q s (some ⟨w1.heap.size, 0, none⟩) n' n' q' s' ∧ Row W w.heap.size n q s ∧ Row W w1.heap.size n' q' s') := by
            obtain ⟨x1, x2, x3⟩ := X2.out
            have y2 := x2.later hb
            have y3 := x3.later hb
            exact ⟨later x1 hb, ⟨b1 15, b1 16, cmps_of_row y2 _ (Nat.le_refl _), cmps_of_row y3 _ (Nat.le_refl _)⟩, y2, y3⟩
          clear hb b1 X2
          refine (find_hit k w2.heap.size (some ⟨w.heap.size, 0, none⟩) n n q s (some ⟨w1.heap.size, 0, none⟩) n' n' q' s' name (by omega) (by omega) W X3.out.2.1 (by have := HK.out; omega) HA.out.1 HA.out.2).mono ?_
          rintro e w4 ⟨rfl, hb⟩
          have X4 : Hid (Below w.heap.size w w4 ∧ Row w4 w.heap.size n q s ∧ Row w4 w1.heap.size n' q' s') := ⟨later X3.out.1 hb, X3.out.2.2.1.later hb, X3.out.2.2.2.later hb⟩
          clear hb X3
          obtain ⟨i0, hi, hz0, hz1, hz2⟩ := info_parts Try.info37
          have hmk := Try.makeIns n (by omega)
          have hu1 : (u : Int) ≤ (n : Int) := by omega
          have XC : Hid (Below w4.heap.size w4 (w4.alloc (.cells #[.string name, .pointer none, .bool false, .nilIface] 42)) ∧ (w4.alloc (.cells #[.string name, .pointer none, .bool false, .nilIface] 42)).heap.size = w4.heap.size + 1 ∧ Row (w4.alloc (.cells #[.string name, .pointer none, .bool false, .nilIface] 42)) w.heap.size n q s ∧ (w4.alloc (.cells #[.string name, .pointer none, .bool false, .nilIface] 42)).cell? ⟨w4.heap.size, 0, none⟩ = some (.string name)) := ⟨by go_grown, by simp, X4.out.2.1.later (by go_grown), by simp [go_sem]⟩
          go_wp2_with (first
            | (at_builtin; refine wpList_append_own _ rfl (.tmp 85) (.tmp 88) 27 rfl (w4.heap.size + 1) 37 i0 _ 1 8 Try.underlying27 hi hz0 hz1 hz2 rfl (by decide) (.slice (some ⟨w4.heap.size + 1, 0, none⟩) 0 (n + 1)) 0 [] rfl (own0 w4 _ n (by omega)) ⟨w.heap.size, 0, none⟩ u n (ptrs q u) rfl (ptrs_len _ _) (by have h := ptrs_cells (W := (w4.alloc (.cells #[.string name, .pointer none, .bool false, .nilIface] 42)).alloc (.cells (madeCells #[.pointer none] (n + 1)) 37)) XC.out.2.2.1 (by go_grown) 0 u (by omega) ⟨w.heap.size, 0, none⟩ (fun _ => rfl); simpa using h) (ptrs_one _ _) (by unfold maxLen; omega) (by omega) (by simp) ?_; intro v1 w5 hown1 hgrow1 hnil1; have hb5 : Below (w4.alloc (.cells #[.string name, .pointer none, .bool false, .nilIface] 42)).heap.size (w4.alloc (.cells #[.string name, .pointer none, .bool false, .nilIface] 42)) w5 := grown_below (by go_grown) hgrow1 (own0 w4 _ n (by omega)) (by simp))
            | (at_builtin; refine wpList_append_own _ rfl (.tmp 90) (.tmp 92) 27 rfl (w4.heap.size + 1) 37 i0 _ 1 8 Try.underlying27 hi hz0 hz1 hz2 rfl (by decide) v1 (0 + u) ([] ++ ptrs q u) rfl (hown1.alloc _) ⟨w5.heap.size, 0, none⟩ 1 1 [.pointer (some ⟨w4.heap.size, 0, none⟩)] rfl rfl (cell_one_new _ _ _) (by intro x hx; simp at hx; subst hx; rfl) (by unfold maxLen; omega) (by omega) (by have := hb5.size; have := XC.out.2.1; simp; omega) ?_; intro v2 w6 hown2 hgrow2 hnil2; have hb6 : Below (w4.alloc (.cells #[.string name, .pointer none, .bool false, .nilIface] 42)).heap.size (w4.alloc (.cells #[.string name, .pointer none, .bool false, .nilIface] 42)) w6 := grown_below (hb5.alloc hb5.size _) hgrow2 (hown1.alloc _) (by simp))
            | (at_builtin; refine wpList_append_own _ rfl (.tmp 94) (.tmp 97) 27 rfl (w4.heap.size + 1) 37 i0 _ 1 8 Try.underlying27 hi hz0 hz1 hz2 rfl (by decide) v2 (0 + u + 1) ([] ++ ptrs q u ++ [.pointer (some ⟨w4.heap.size, 0, none⟩)]) rfl hown2 ⟨w.heap.size, u, none⟩ (n - u) (n - u) (ptrs (fun i => q (u + i)) (n - u)) rfl (ptrs_len _ _) (ptrs_cells XC.out.2.2.1 hb6 u (n - u) (by omega) ⟨w.heap.size, u, none⟩ (fun h => by first | rfl | omega)) (ptrs_one _ _) (by unfold maxLen; omega) (by omega) (by have := hb6.size; have := XC.out.2.1; omega) ?_; intro v3 w7 hown3 hgrow3 hnil3; have hb7 : Below (w4.alloc (.cells #[.string name, .pointer none, .bool false, .nilIface] 42)).heap.size (w4.alloc (.cells #[.string name, .pointer none, .bool false, .nilIface] 42)) w7 := grown_below hb6 hgrow3 hown2 (by simp); obtain ⟨a3, c3, rfl, hC⟩ := ins_cmps (u := u) (x := w4.heap.size) (name := name) (by omega) (by omega) (XC.out.2.2.1.later hb7) (cell_later XC.out.2.2.2 hb7) hown3))
          have X7 : Hid (Below w.heap.size w w7 ∧ Cmps w7 a3 (n + 1) (insQ u w4.heap.size q) (insS u name s) ∧ Row w7 w1.heap.size n' q' s') := ⟨later (later X4.out.1 XC.out.1) hb7, hC, (X4.out.2.2.later XC.out.1).later hb7⟩
          clear hC hown1 hown2 hown3 hgrow1 hgrow2 hgrow3 hnil1 hnil2 hnil3 hb5 hb6 hb7 XC X4 hmk hi hz0 hz1 hz2
          refine calls_abs1 w7 _ _ ?_
          intro W2 hb b1
          have X8 : Hid (Below w.heap.size w W2 ∧ Typ W2 w7.heap.size a3 (n + 1) c3 (insQ u w4.heap.size q) (insS u name s) (some ⟨w1.heap.size, 0, none⟩) n' n' q' s') := by
            obtain ⟨x1, x2, x3⟩ := X7.out
            exact ⟨later x1 hb, ⟨b1 15, b1 16, x2.later hb, cmps_of_row (x3.later hb) _ (Nat.le_refl _)⟩⟩
          clear hb b1 X7
          refine (find_hit k w7.heap.size a3 (n + 1) c3 (insQ u w4.heap.size q) (insS u name s) (some ⟨w1.heap.size, 0, none⟩) n' n' q' s' name (by omega) (by omega) W2 X8.out.2 (by have := HK.out; omega) (by rw [insS_lt HK.out]; exact HA.out.1) (fun i hi => by rw [insS_lt (Nat.lt_trans hi HK.out)]; exact HA.out.2 i hi)).mono ?_
          rw [insQ_lt HK.out]
          rintro e w9 ⟨rfl, hb⟩
          have X9 : Hid (Below w.heap.size w w9) := later X8.out.1 hb
          clear hb X8
          have h37 := eql37
          have huc : (u : Int) ≤ (c : Int) := by omega
          go_wp2_with fail
          refine (has_any a u c s name true (by omega) w9 ((H.out.1.later X9.out).take (by omega)) (.inl ⟨rfl, k, HK.out, HA.out.1⟩)).mono ?_
          rintro e w' ⟨rfl, rfl⟩
          go_wp2_with fail
          go_ret
          exact ⟨rfl, X9.out⟩
        · have HA : Hid (∀ i, i < u → eqS (s i) name = false) := hno
          clear hno
          go_wp2_with fail
          refine calls_abs1 w2 _ _ ?_
          intro W hb b1
          have X3 : Hid (Below w.heap.size w W ∧ Typ W w2.heap.size (some ⟨w.heap.size, 0, none⟩) n n q s (some ⟨w1.heap.size, 0, none⟩) n' n' q' s' ∧ Row W w.heap.size n q s ∧ Row W w1.heap.size n' q' s') := by
            obtain ⟨x1, x2, x3⟩ := X2.out
            have y2 := x2.later hb
            have y3 := x3.later hb
            exact ⟨later x1 hb, ⟨b1 15, b1 16, cmps_of_row y2 _ (Nat.le_refl _), cmps_of_row y3 _ (Nat.le_refl _)⟩, y2, y3⟩
          clear hb b1 X2
          refine (find_some w2.heap.size (some ⟨w.heap.size, 0, none⟩) n n q s (some ⟨w1.heap.size, 0, none⟩) n' n' q' s' name (by omega) (by omega) W X3.out.2.1).mono ?_
          rintro e w4 ⟨r, rfl, hb⟩
          have X4 : Hid (Below w.heap.size w w4 ∧ Row w4 w.heap.size n q s ∧ Row w4 w1.heap.size n' q' s') := ⟨later X3.out.1 hb, X3.out.2.2.1.later hb, X3.out.2.2.2.later hb⟩
          clear hb X3
          obtain ⟨i0, hi, hz0, hz1, hz2⟩ := info_parts Try.info37
          have hmk := Try.makeIns n (by omega)
          have hu1 : (u : Int) ≤ (n : Int) := by omega
          have XC : Hid (Below w4.heap.size w4 (w4.alloc (.cells #[.string name, .pointer none, .bool false, .nilIface] 42)) ∧ (w4.alloc (.cells #[.string name, .pointer none, .bool false, .nilIface] 42)).heap.size = w4.heap.size + 1 ∧ Row (w4.alloc (.cells #[.string name, .pointer none, .bool false, .nilIface] 42)) w.heap.size n q s ∧ (w4.alloc (.cells #[.string name, .pointer none, .bool false, .nilIface] 42)).cell? ⟨w4.heap.size, 0, none⟩ = some (.string name)) := ⟨by go_grown, by simp, X4.out.2.1.later (by go_grown), by simp [go_sem]⟩
          go_wp2_with (first
            | (at_builtin; refine wpList_append_own _ rfl (.tmp 85) (.tmp 88) 27 rfl (w4.heap.size + 1) 37 i0 _ 1 8 Try.underlying27 hi hz0 hz1 hz2 rfl (by decide) (.slice (some ⟨w4.heap.size + 1, 0, none⟩) 0 (n + 1)) 0 [] rfl (own0 w4 _ n (by omega)) ⟨w.heap.size, 0, none⟩ u n (ptrs q u) rfl (ptrs_len _ _) (by have h := ptrs_cells (W := (w4.alloc (.cells #[.string name, .pointer none, .bool false, .nilIface] 42)).alloc (.cells (madeCells #[.pointer none] (n + 1)) 37)) XC.out.2.2.1 (by go_grown) 0 u (by omega) ⟨w.heap.size, 0, none⟩ (fun _ => rfl); simpa using h) (ptrs_one _ _) (by unfold maxLen; omega) (by omega) (by simp) ?_; intro v1 w5 hown1 hgrow1 hnil1; have hb5 : Below (w4.alloc (.cells #[.string name, .pointer none, .bool false, .nilIface] 42)).heap.size (w4.alloc (.cells #[.string name, .pointer none, .bool false, .nilIface] 42)) w5 := grown_below (by go_grown) hgrow1 (own0 w4 _ n (by omega)) (by simp))
            | (at_builtin; refine wpList_append_own _ rfl (.tmp 90) (.tmp 92) 27 rfl (w4.heap.size + 1) 37 i0 _ 1 8 Try.underlying27 hi hz0 hz1 hz2 rfl (by decide) v1 (0 + u) ([] ++ ptrs q u) rfl (hown1.alloc _) ⟨w5.heap.size, 0, none⟩ 1 1 [.pointer (some ⟨w4.heap.size, 0, none⟩)] rfl rfl (cell_one_new _ _ _) (by intro x hx; simp at hx; subst hx; rfl) (by unfold maxLen; omega) (by omega) (by have := hb5.size; have := XC.out.2.1; simp; omega) ?_; intro v2 w6 hown2 hgrow2 hnil2; have hb6 : Below (w4.alloc (.cells #[.string name, .pointer none, .bool false, .nilIface] 42)).heap.size (w4.alloc (.cells #[.string name, .pointer none, .bool false, .nilIface] 42)) w6 := grown_below (hb5.alloc hb5.size _) hgrow2 (hown1.alloc _) (by simp))
            | (at_builtin; refine wpList_append_own _ rfl (.tmp 94) (.tmp 97) 27 rfl (w4.heap.size + 1) 37 i0 _ 1 8 Try.underlying27 hi hz0 hz1 hz2 rfl (by decide) v2 (0 + u + 1) ([] ++ ptrs q u ++ [.pointer (some ⟨w4.heap.size, 0, none⟩)]) rfl hown2 ⟨w.heap.size, u, none⟩ (n - u) (n - u) (ptrs (fun i => q (u + i)) (n - u)) rfl (ptrs_len _ _) (ptrs_cells XC.out.2.2.1 hb6 u (n - u) (by omega) ⟨w.heap.size, u, none⟩ (fun h => by first | rfl | omega)) (ptrs_one _ _) (by unfold maxLen; omega) (by omega) (by have := hb6.size; have := XC.out.2.1; omega) ?_; intro v3 w7 hown3 hgrow3 hnil3; have hb7 : Below (w4.alloc (.cells #[.string name, .pointer none, .bool false, .nilIface] 42)).heap.size (w4.alloc (.cells #[.string name, .pointer none, .bool false, .nilIface] 42)) w7 := grown_below hb6 hgrow3 hown2 (by simp); obtain ⟨a3, c3, rfl, hC⟩ := ins_cmps (u := u) (x := w4.heap.size) (name := name) (by omega) (by omega) (XC.out.2.2.1.later hb7) (cell_later XC.out.2.2.2 hb7) hown3))
          have X7 : Hid (Below w.heap.size w w7 ∧ Cmps w7 a3 (n + 1) (insQ u w4.heap.size q) (insS u name s) ∧ Row w7 w1.heap.size n' q' s') := ⟨later (later X4.out.1 XC.out.1) hb7, hC, (X4.out.2.2.later XC.out.1).later hb7⟩
          clear hC hown1 hown2 hown3 hgrow1 hgrow2 hgrow3 hnil1 hnil2 hnil3 hb5 hb6 hb7 XC X4 hmk hi hz0 hz1 hz2
          refine calls_abs1 w7 _ _ ?_
          intro W2 hb b1
          have X8 : Hid (Below w.heap.size w W2 ∧ Typ W2 w7.heap.size a3 (n + 1) c3 (insQ u w4.heap.size q) (insS u name s) (some ⟨w1.heap.size, 0, none⟩) n' n' q' s') := by
            obtain ⟨x1, x2, x3⟩ := X7.out
            exact ⟨later x1 hb, ⟨b1 15, b1 16, x2.later hb, cmps_of_row (x3.later hb) _ (Nat.le_refl _)⟩⟩
          clear hb b1 X7
          refine (find_hit u w7.heap.size a3 (n + 1) c3 (insQ u w4.heap.size q) (insS u name s) (some ⟨w1.heap.size, 0, none⟩) n' n' q' s' name (by omega) (by omega) W2 X8.out.2 (by omega) (by rw [insS_at]; simp [eqS]) (fun i hi => by rw [insS_lt hi]; exact HA.out i hi)).mono ?_
          rw [insQ_at]
          rintro e w9 ⟨rfl, hb⟩
          have X9 : Hid (Below w.heap.size w w9) := later X8.out.1 hb
          clear hb X8
          have h37 := eql37
          have huc : (u : Int) ≤ (c : Int) := by omega
          go_wp2_with fail
          refine (has_any a u c s name false (by omega) w9 ((H.out.1.later X9.out).take (by omega)) (.inr ⟨rfl, HA.out⟩)).mono ?_
          rintro e w' ⟨rfl, rfl⟩
          go_wp2_with fail
          go_ret
          exact ⟨rfl, X9.out⟩
      · obtain rfl : n = u := by omega
        rcases first_or_none n (fun i => eqS (s i) name) with ⟨k, hkn, hkt, hkl⟩ | hno
        · have HK : Hid (k < n) := hkn
          have HA : Hid (eqS (s k) name = true ∧ ∀ i, i < k → eqS (s i) name = false) := ⟨hkt, hkl⟩
          clear hkn hkt hkl
          go_wp2_with fail
          refine calls_abs1 w2 _ _ ?_
          intro W hb b1
          have X3 : Hid (Below w.heap.size w W ∧ Typ W w2.heap.size (some ⟨w.heap.size, 0, none⟩) n n q s (some ⟨w1.heap.size, 0, none⟩) n' n' q' s' ∧ Row W w.heap.size n q s ∧ Row W w1.heap.size n' q' s') := by
            obtain ⟨x1, x2, x3⟩ := X2.out
            have y2 := x2.later hb
            have y3 := x3.later hb
            exact ⟨later x1 hb, ⟨b1 15, b1 16, cmps_of_row y2 _ (Nat.le_refl _), cmps_of_row y3 _ (Nat.le_refl _)⟩, y2, y3⟩
          clear hb b1 X2
          refine (find_hit k w2.heap.size (some ⟨w.heap.size, 0, none⟩) n n q s (some ⟨w1.heap.size, 0, none⟩) n' n' q' s' name (by omega) (by omega) W X3.out.2.1 (by have := HK.out; omega) HA.out.1 HA.out.2).mono ?_
          rintro e w4 ⟨rfl, hb⟩
          have X4 : Hid (Below w.heap.size w w4 ∧ Row w4 w.heap.size n q s ∧ Row w4 w1.heap.size n' q' s') := ⟨later X3.out.1 hb, X3.out.2.2.1.later hb, X3.out.2.2.2.later hb⟩
          clear hb X3
          obtain ⟨i0, hi, hz0, hz1, hz2⟩ := info_parts Try.info37
          have hmk := Try.makeIns n (by omega)
          have hu1 : (n : Int) ≤ (n : Int) := by omega
          have XC : Hid (Below w4.heap.size w4 (w4.alloc (.cells #[.string name, .pointer none, .bool false, .nilIface] 42)) ∧ (w4.alloc (.cells #[.string name, .pointer none, .bool false, .nilIface] 42)).heap.size = w4.heap.size + 1 ∧ Row (w4.alloc (.cells #[.string name, .pointer none, .bool false, .nilIface] 42)) w.heap.size n q s ∧ (w4.alloc (.cells #[.string name, .pointer none, .bool false, .nilIface] 42)).cell? ⟨w4.heap.size, 0, none⟩ = some (.string name)) := ⟨by go_grown, by simp, X4.out.2.1.later (by go_grown), by simp [go_sem]⟩
          go_wp2_with (first
            | (at_builtin; refine wpList_append_own _ rfl (.tmp 85) (.tmp 88) 27 rfl (w4.heap.size + 1) 37 i0 _ 1 8 Try.underlying27 hi hz0 hz1 hz2 rfl (by decide) (.slice (some ⟨w4.heap.size + 1, 0, none⟩) 0 (n + 1)) 0 [] rfl (own0 w4 _ n (by omega)) ⟨w.heap.size, 0, none⟩ n n (ptrs q n) rfl (ptrs_len _ _) (by have h := ptrs_cells (W := (w4.alloc (.cells #[.string name, .pointer none, .bool false, .nilIface] 42)).alloc (.cells (madeCells #[.pointer none] (n + 1)) 37)) XC.out.2.2.1 (by go_grown) 0 n (by omega) ⟨w.heap.size, 0, none⟩ (fun _ => rfl); simpa using h) (ptrs_one _ _) (by unfold maxLen; omega) (by omega) (by simp) ?_; intro v1 w5 hown1 hgrow1 hnil1; have hb5 : Below (w4.alloc (.cells #[.string name, .pointer none, .bool false, .nilIface] 42)).heap.size (w4.alloc (.cells #[.string name, .pointer none, .bool false, .nilIface] 42)) w5 := grown_below (by go_grown) hgrow1 (own0 w4 _ n (by omega)) (by simp))
            | (at_builtin; refine wpList_append_own _ rfl (.tmp 90) (.tmp 92) 27 rfl (w4.heap.size + 1) 37 i0 _ 1 8 Try.underlying27 hi hz0 hz1 hz2 rfl (by decide) v1 (0 + n) ([] ++ ptrs q n) rfl (hown1.alloc _) ⟨w5.heap.size, 0, none⟩ 1 1 [.pointer (some ⟨w4.heap.size, 0, none⟩)] rfl rfl (cell_one_new _ _ _) (by intro x hx; simp at hx; subst hx; rfl) (by unfold maxLen; omega) (by omega) (by have := hb5.size; have := XC.out.2.1; simp; omega) ?_; intro v2 w6 hown2 hgrow2 hnil2; have hb6 : Below (w4.alloc (.cells #[.string name, .pointer none, .bool false, .nilIface] 42)).heap.size (w4.alloc (.cells #[.string name, .pointer none, .bool false, .nilIface] 42)) w6 := grown_below (hb5.alloc hb5.size _) hgrow2 (hown1.alloc _) (by simp))
            | (at_builtin; refine wpList_append_own _ rfl (.tmp 94) (.tmp 97) 27 rfl (w4.heap.size + 1) 37 i0 _ 1 8 Try.underlying27 hi hz0 hz1 hz2 rfl (by decide) v2 (0 + n + 1) ([] ++ ptrs q n ++ [.pointer (some ⟨w4.heap.size, 0, none⟩)]) rfl hown2 ⟨w.heap.size, 0, none⟩ 0 0 (ptrs (fun i => q (n + i)) 0) rfl (ptrs_len _ _) (ptrs_cells XC.out.2.2.1 hb6 n 0 (by omega) ⟨w.heap.size, 0, none⟩ (fun h => by first | rfl | omega)) (ptrs_one _ _) (by unfold maxLen; omega) (by omega) (by have := hb6.size; have := XC.out.2.1; omega) ?_; intro v3 w7 hown3 hgrow3 hnil3; have hb7 : Below (w4.alloc (.cells #[.string name, .pointer none, .bool false, .nilIface] 42)).heap.size (w4.alloc (.cells #[.string name, .pointer none, .bool false, .nilIface] 42)) w7 := grown_below hb6 hgrow3 hown2 (by simp); obtain ⟨a3, c3, rfl, hC⟩ := ins_cmps (u := n) (x := w4.heap.size) (name := name) (by omega) (by omega) (XC.out.2.2.1.later hb7) (cell_later XC.out.2.2.2 hb7) (show w7.ownsRow (w4.heap.size + 1) 37 1 v3 (0 + n + 1 + 0) ([] ++ ptrs q n ++ [.pointer (some ⟨w4.heap.size, 0, none⟩)] ++ ptrs (fun i => q (n + i)) (n - n)) from (by rw [Nat.sub_self]; exact hown3))))
          have X7 : Hid (Below w.heap.size w w7 ∧ Cmps w7 a3 (n + 1) (insQ n w4.heap.size q) (insS n name s) ∧ Row w7 w1.heap.size n' q' s') := ⟨later (later X4.out.1 XC.out.1) hb7, hC, (X4.out.2.2.later XC.out.1).later hb7⟩
          clear hC hown1 hown2 hown3 hgrow1 hgrow2 hgrow3 hnil1 hnil2 hnil3 hb5 hb6 hb7 XC X4 hmk hi hz0 hz1 hz2
          refine calls_abs1 w7 _ _ ?_
          intro W2 hb b1
          have X8 : Hid (Below w.heap.size w W2 ∧ Typ W2 w7.heap.size a3 (n + 1) c3 (insQ n w4.heap.size q) (insS n name s) (some ⟨w1.heap.size, 0, none⟩) n' n' q' s') := by
            obtain ⟨x1, x2, x3⟩ := X7.out
            exact ⟨later x1 hb, ⟨b1 15, b1 16, x2.later hb, cmps_of_row (x3.later hb) _ (Nat.le_refl _)⟩⟩
          clear hb b1 X7
          refine (find_hit k w7.heap.size a3 (n + 1) c3 (insQ n w4.heap.size q) (insS n name s) (some ⟨w1.heap.size, 0, none⟩) n' n' q' s' name (by omega) (by omega) W2 X8.out.2 (by have := HK.out; omega) (by rw [insS_lt HK.out]; exact HA.out.1) (fun i hi => by rw [insS_lt (Nat.lt_trans hi HK.out)]; exact HA.out.2 i hi)).mono ?_
          rw [insQ_lt HK.out]
          rintro e w9 ⟨rfl, hb⟩
          have X9 : Hid (Below w.heap.size w w9) := later X8.out.1 hb
          clear hb X8
          have h37 := eql37
          have huc : (n : Int) ≤ (c : Int) := by omega
          go_wp2_with fail
          refine (has_any a n c s name true (by omega) w9 ((H.out.1.later X9.out).take (by omega)) (.inl ⟨rfl, k, HK.out, HA.out.1⟩)).mono ?_
          rintro e w' ⟨rfl, rfl⟩
          go_wp2_with fail
          go_ret
          exact ⟨rfl, X9.out⟩
        · have HA : Hid (∀ i, i < n → eqS (s i) name = false) := hno
          clear hno
          go_wp2_with fail
          refine calls_abs1 w2 _ _ ?_
          intro W hb b1
          have X3 : Hid (Below w.heap.size w W ∧ Typ W w2.heap.size (some ⟨w.heap.size, 0, none⟩) n n q s (some ⟨w1.heap.size, 0, none⟩) n' n' q' s' ∧ Row W w.heap.size n q s ∧ Row W w1.heap.size n' q' s') := by
            obtain ⟨x1, x2, x3⟩ := X2.out
            have y2 := x2.later hb
            have y3 := x3.later hb
            exact ⟨later x1 hb, ⟨b1 15, b1 16, cmps_of_row y2 _ (Nat.le_refl _), cmps_of_row y3 _ (Nat.le_refl _)⟩, y2, y3⟩
          clear hb b1 X2
          refine (find_some w2.heap.size (some ⟨w.heap.size, 0, none⟩) n n q s (some ⟨w1.heap.size, 0, none⟩) n' n' q' s' name (by omega) (by omega) W X3.out.2.1).mono ?_
          rintro e w4 ⟨r, rfl, hb⟩
          have X4 : Hid (Below w.heap.size w w4 ∧ Row w4 w.heap.size n q s ∧ Row w4 w1.heap.size n' q' s') := ⟨later X3.out.1 hb, X3.out.2.2.1.later hb, X3.out.2.2.2.later hb⟩
          clear hb X3
          obtain ⟨i0, hi, hz0, hz1, hz2⟩ := info_parts Try.info37
          have hmk := Try.makeIns n (by omega)
          have hu1 : (n : Int) ≤ (n : Int) := by omega
          have XC : Hid (Below w4.heap.size w4 (w4.alloc (.cells #[.string name, .pointer none, .bool false, .nilIface] 42)) ∧ (w4.alloc (.cells #[.string name, .pointer none, .bool false, .nilIface] 42)).heap.size = w4.heap.size + 1 ∧ Row (w4.alloc (.cells #[.string name, .pointer none, .bool false, .nilIface] 42)) w.heap.size n q s ∧ (w4.alloc (.cells #[.string name, .pointer none, .bool false, .nilIface] 42)).cell? ⟨w4.heap.size, 0, none⟩ = some (.string name)) := ⟨by go_grown, by simp, X4.out.2.1.later (by go_grown), by simp [go_sem]⟩
          go_wp2_with (first
            | (at_builtin; refine wpList_append_own _ rfl (.tmp 85) (.tmp 88) 27 rfl (w4.heap.size + 1) 37 i0 _ 1 8 Try.underlying27 hi hz0 hz1 hz2 rfl (by decide) (.slice (some ⟨w4.heap.size + 1, 0, none⟩) 0 (n + 1)) 0 [] rfl (own0 w4 _ n (by omega)) ⟨w.heap.size, 0, none⟩ n n (ptrs q n) rfl (ptrs_len _ _) (by have h := ptrs_cells (W := (w4.alloc (.cells #[.string name, .pointer none, .bool false, .nilIface] 42)).alloc (.cells (madeCells #[.pointer none] (n + 1)) 37)) XC.out.2.2.1 (by go_grown) 0 n (by omega) ⟨w.heap.size, 0, none⟩ (fun _ => rfl); simpa using h) (ptrs_one _ _) (by unfold maxLen; omega) (by omega) (by simp) ?_; intro v1 w5 hown1 hgrow1 hnil1; have hb5 : Below (w4.alloc (.cells #[.string name, .pointer none, .bool false, .nilIface] 42)).heap.size (w4.alloc (.cells #[.string name, .pointer none, .bool false, .nilIface] 42)) w5 := grown_below (by go_grown) hgrow1 (own0 w4 _ n (by omega)) (by simp))
            | (at_builtin; refine wpList_append_own _ rfl (.tmp 90) (.tmp 92) 27 rfl (w4.heap.size + 1) 37 i0 _ 1 8 Try.underlying27 hi hz0 hz1 hz2 rfl (by decide) v1 (0 + n) ([] ++ ptrs q n) rfl (hown1.alloc _) ⟨w5.heap.size, 0, none⟩ 1 1 [.pointer (some ⟨w4.heap.size, 0, none⟩)] rfl rfl (cell_one_new _ _ _) (by intro x hx; simp at hx; subst hx; rfl) (by unfold maxLen; omega) (by omega) (by have := hb5.size; have := XC.out.2.1; simp; omega) ?_; intro v2 w6 hown2 hgrow2 hnil2; have hb6 : Below (w4.alloc (.cells #[.string name, .pointer none, .bool false, .nilIface] 42)).heap.size (w4.alloc (.cells #[.string name, .pointer none, .bool false, .nilIface] 42)) w6 := grown_below (hb5.alloc hb5.size _) hgrow2 (hown1.alloc _) (by simp))
            | (at_builtin; refine wpList_append_own _ rfl (.tmp 94) (.tmp 97) 27 rfl (w4.heap.size + 1) 37 i0 _ 1 8 Try.underlying27 hi hz0 hz1 hz2 rfl (by decide) v2 (0 + n + 1) ([] ++ ptrs q n ++ [.pointer (some ⟨w4.heap.size, 0, none⟩)]) rfl hown2 ⟨w.heap.size, 0, none⟩ 0 0 (ptrs (fun i => q (n + i)) 0) rfl (ptrs_len _ _) (ptrs_cells XC.out.2.2.1 hb6 n 0 (by omega) ⟨w.heap.size, 0, none⟩ (fun h => by first | rfl | omega)) (ptrs_one _ _) (by unfold maxLen; omega) (by omega) (by have := hb6.size; have := XC.out.2.1; omega) ?_; intro v3 w7 hown3 hgrow3 hnil3; have hb7 : Below (w4.alloc (.cells #[.string name, .pointer none, .bool false, .nilIface] 42)).heap.size (w4.alloc (.cells #[.string name, .pointer none, .bool false, .nilIface] 42)) w7 := grown_below hb6 hgrow3 hown2 (by simp); obtain ⟨a3, c3, rfl, hC⟩ := ins_cmps (u := n) (x := w4.heap.size) (name := name) (by omega) (by omega) (XC.out.2.2.1.later hb7) (cell_later XC.out.2.2.2 hb7) (show w7.ownsRow (w4.heap.size + 1) 37 1 v3 (0 + n + 1 + 0) ([] ++ ptrs q n ++ [.pointer (some ⟨w4.heap.size, 0, none⟩)] ++ ptrs (fun i => q (n + i)) (n - n)) from (by rw [Nat.sub_self]; exact hown3))))
          have X7 : Hid (Below w.heap.size w w7 ∧ Cmps w7 a3 (n + 1) (insQ n w4.heap.size q) (insS n name s) ∧ Row w7 w1.heap.size n' q' s') := ⟨later (later X4.out.1 XC.out.1) hb7, hC, (X4.out.2.2.later XC.out.1).later hb7⟩
          clear hC hown1 hown2 hown3 hgrow1 hgrow2 hgrow3 hnil1 hnil2 hnil3 hb5 hb6 hb7 XC X4 hmk hi hz0 hz1 hz2
          refine calls_abs1 w7 _ _ ?_
          intro W2 hb b1
          have X8 : Hid (Below w.heap.size w W2 ∧ Typ W2 w7.heap.size a3 (n + 1) c3 (insQ n w4.heap.size q) (insS n name s) (some ⟨w1.heap.size, 0, none⟩) n' n' q' s') := by
            obtain ⟨x1, x2, x3⟩ := X7.out
            exact ⟨later x1 hb, ⟨b1 15, b1 16, x2.later hb, cmps_of_row (x3.later hb) _ (Nat.le_refl _)⟩⟩
          clear hb b1 X7
          refine (find_hit n w7.heap.size a3 (n + 1) c3 (insQ n w4.heap.size q) (insS n name s) (some ⟨w1.heap.size, 0, none⟩) n' n' q' s' name (by omega) (by omega) W2 X8.out.2 (by omega) (by rw [insS_at]; simp [eqS]) (fun i hi => by rw [insS_lt hi]; exact HA.out i hi)).mono ?_
          rw [insQ_at]
          rintro e w9 ⟨rfl, hb⟩
          have X9 : Hid (Below w.heap.size w w9) := later X8.out.1 hb
          clear hb X8
          have h37 := eql37
          have huc : (n : Int) ≤ (c : Int) := by omega
          go_wp2_with fail
          refine (has_any a n c s name false (by omega) w9 ((H.out.1.later X9.out).take (by omega)) (.inr ⟨rfl, HA.out⟩)).mono ?_
          rintro e w' ⟨rfl, rfl⟩
          go_wp2_with fail
          go_ret
          exact ⟨rfl, X9.out⟩

end Go.Proofs.Qxb6608862a
