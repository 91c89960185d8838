import Derived.Test.Qxb6608862aDoorLaw5
import Derived.Test.Qxb6608862aDoorNum
namespace Go.Proofs.Qxb6608862aDoor
open Go.RowKit

theorem int_eq_true {a b : Int} (h : a = b) : (a == b) = true := by simpa using h
theorem int_eq_false {a b : Int} (h : a ≠ b) : (a == b) = false := by simpa using h

set_option maxRecDepth 100000 in
set_option maxHeartbeats 4000000 in
theorem law4_neg (kn : Nat → ByteArray) (field tkey keyField : ByteArray) (key kind : Int) (name : ByteArray) (out ts D : ByteArray) (b : Nat → Int) (i0 L u : Nat) (w : World) (T : Hid (Tabs w kn))
    (e1 : Hid (out = stepStr tkey key ts ∧ ts = typStr kn kind name))
    (B : Hid ((-9223372036854775808 ≤ key ∧ key ≤ 9223372036854775807) ∧ (-9223372036854775808 ≤ kind ∧ kind ≤ 9223372036854775807)))
    (hf : field.size ≤ 262144) (ht : tkey.size ≤ 262144) (hk : keyField.size ≤ 262144) (hn : name.size ≤ 262144) (hts : ts.size ≤ 262144)
    (z1 : out.size = i0 + L + (ts.size + 3)) (hi0 : Hid (i0 = 1 + tkey.size + 1 + 1)) (L1 : 1 ≤ L) (L2 : L ≤ 19)
    (hget : ∀ (i : Nat) (h : i < out.size), ((out[i].toNat : Nat) : Int) = b i) (b0 : b 0 = 40) (bq : b (1 + tkey.size) = 32)
    (x1 : (out.extract 1 (1 + tkey.size)).toList = tkey.toList) (bs : b (1 + tkey.size + 1) = 45) (hneg : key < 0) (hmag : IntKind.u64.wrap (-IntKind.u64.wrap key) = (u : Int)) (nz : (D.toList == [48]) = false)
    (hdig : Hid (∀ t, t < L → 48 ≤ b (i0 + t) ∧ b (i0 + t) ≤ 57)) (hend : Hid (b (i0 + L) = 58)) (hD : Hid (out.extract i0 (i0 + L) = D)) (hDs : D.size = L)
    (hDget : ∀ (i : Nat) (h : i < D.size), ((D[i].toNat : Nat) : Int) = b (i0 + i)) (hlead : Hid (1 < L → b (i0 + 0) ≠ 48))
    (V : Nat → Nat) (hV0 : Hid (V 0 = 0)) (hVs : Hid (∀ t, t < L → (V (t + 1) : Int) = V t * 10 + (b (i0 + t) - 48))) (hVL : Hid (V L = u)) (hVlt : Hid (∀ t, t ≤ L → V t < 10000000000000000000))
    (hback : Hid (((out.extract (i0 + L) (i0 + L + (ts.size + 3))).toList == (⟨#[58, 32]⟩ ++ ts ++ ⟨#[41]⟩ : ByteArray).toList) = true)) :
    Calls Tryd.prog 4 #[.string field, .string tkey, .string keyField, .int .i64 key, .int .i64 kind, .string name] w (Yes w) := by
  have hz : i0 = 1 + tkey.size + 1 + 1 := hi0.out
  have r1 : (0 : Int) < i0 + L + (ts.size + 3) := by omega
  have r2 : (1 : Int) + tkey.size < i0 + L + (ts.size + 3) := by omega
  have r3 : (1 : Int) + tkey.size + 1 < i0 + L + (ts.size + 3) := by omega
  have r4 : (0 : Int) ≤ 1 + tkey.size := by omega
  have r5 : (0 : Int) ≤ 1 + tkey.size + 1 := by omega
  have r6 : (1 : Int) + tkey.size + 1 + 1 ≤ i0 + L + (ts.size + 3) := by omega
  have ez : 1 + (tkey.size : Int) + 1 + 1 = (i0 : Int) := by omega
  have EZ : Hid (1 + (tkey.size : Int) + 1 + 1 = (i0 : Int)) := ez
  have i0le : i0 ≤ 262148 := by omega
  clear hz ez
  go_enter Tryd.func4, Tryd.ntmps4
  go_wp2_with fail
  refine (bytes8_any field tkey keyField key kind name w).mono ?_
  rintro e w0 ⟨y, rfl, rfl⟩
  cases y
  · go_wp2_with fail
    go_ret
    exact ⟨rfl, Below.refl _ _⟩
  go_wp2_with fail
  obtain ⟨W, HW⟩ : ∃ W, Hid (Set2 kn w.heap.size (w.heap.size + 1) tkey kind name w W) ∧ ((w.alloc (Obj.cells #[Value.pointer none, Value.string field, Value.string tkey, Value.string keyField, Value.map none] 26)).alloc (Obj.cells
        #[Value.int IntKind.i64 kind, Value.string name, Value.int IntKind.i64 0, Value.int IntKind.u64 0,
          Value.bool false, Value.bool false, Value.bool false, Value.int IntKind.i64 0, Value.int IntKind.u64 0,
          Value.bool false, Value.bool false, Value.bool false, Value.bool false, Value.slice none 0 0,
          Value.slice none 0 0, Value.slice none 0 0, Value.slice none 0 0, Value.pointer none, Value.pointer none,
          Value.string { data := #[] }, Value.pointer none]
        35)) = W := ⟨_, Set2.mk0 T.out _ _ _ _ rfl rfl rfl, rfl⟩
  rw [HW.2]
  obtain ⟨S0, -⟩ := HW
  refine (step_any kn w.heap.size (w.heap.size + 1) tkey key kind name ts e1.out.2 B.out.2.1 B.out.2.2 B.out.1.1 B.out.1.2 (by omega) (by omega) W S0.out.tabs S0.out.c0 S0.out.c1 S0.out.c2).mono ?_
  rintro e W1 ⟨rfl, hb⟩
  have S1 : Hid (Set2 kn w.heap.size (w.heap.size + 1) tkey kind name w W1) := S0.out.go hb
  clear S0 hb
  rw [← e1.out.1]
  go_wp2_with fail
  refine (typStr_any kn (w.heap.size + 1) kind name B.out.2.1 B.out.2.2 W1 S1.out.tabs S1.out.c0 S1.out.c1).mono ?_
  rintro e W2 ⟨rfl, hb⟩
  have S2 : Hid (Set2 kn w.heap.size (w.heap.size + 1) tkey kind name w W2) := S1.out.go hb
  clear S1 hb
  rw [← e1.out.2]
  go_wp2_with fail
  rw [EZ.out]
  clear r1 r2 r3 r4 r5 r6 x1 b0 bq bs
  go_loop [20] (fun v => ∃ t : Nat, t ≤ L ∧ v = .int .i64 ((i0 : Int) + t)) (fun v => i0 + L - (intOf v).toNat)
  case atStart => exact ⟨0, Nat.zero_le _, by simp⟩
  case round =>
    obtain ⟨t, htL, rfl⟩ := hrel
    have s1 : (i0 : Int) + t < i0 + L + (ts.size + 3) := by omega
    have s0 : (0 : Int) ≤ i0 + t := by omega
    by_cases hlt : t < L
    · have hd := hdig.out t hlt
      have hbt : (decide (b (i0 + t) < 48) || decide (57 < b (i0 + t))) = false := by simp; omega
      go_wp2_with fail
      refine (zzNotDigit_any (b (i0 + t)) W2).mono ?_
      rintro e w' ⟨rfl, rfl⟩
      rw [hbt]
      clear hd hbt
      go_wp2_with fail
      go_round
      case rel =>
        exact ⟨t + 1, by omega, congrArg (Value.int .i64) (by omega)⟩
      case measure => simp [intOf]; omega
    · obtain rfl : t = L := by omega
      have hbt : b (i0 + t) = 58 := hend.out
      go_wp2_with fail
      refine (zzNotDigit_any 58 W2).mono ?_
      rintro e w' ⟨rfl, rfl⟩
      have hd := hD.out
      have hl : 1 < t → b i0 ≠ 48 := hlead.out
      have s2 : (i0 : Int) ≤ i0 + t := by omega
      have s3 : (i0 : Int) + t ≤ i0 + t + (ts.size + 3) := by omega
      have tn : ((t : Int) == 0) = false := int_eq_false (by omega)
      have t19 : (t : Int) ≤ 19 := by omega
      have hm0 := hVL.out
      have c1 : ¬ 9223372036854775807 < 2 + ts.size := by omega
      have c2 : ¬ 9223372036854775807 < 2 + ts.size + 1 := by omega
      go_wp2_with fail
      all_goals
        go_loop [22, 23] (fun v k => ∃ m : Nat, m ≤ t ∧ k = .int .i64 m ∧ v = .int .u64 (V m)) (fun _ k => t - (intOf k).toNat)
        case atStart => exact ⟨0, Nat.zero_le _, rfl, by rw [hV0.out]; rfl⟩
        case round =>
          obtain ⟨m, hm, rfl, rfl⟩ := hrel
          by_cases hml : m < t
          · have g := hdig.out m hml
            have g0 := hVs.out m hml
            have g1 := hVlt.out (m + 1) hml
            have g2 : (V m : Int) * 10 ≤ 10000000000000000000 := by omega
            have g3 : (V m : Int) * 10 + (b (i0 + m) - 48) ≤ 10000000000000000000 := by omega
            go_wp2_with fail
            exact ⟨⟨m + 1, hml, congrArg (Value.int .i64) (by omega), congrArg (Value.int .u64) g0.symm⟩, by simp [intOf]; omega⟩
          · obtain rfl : m = t := by omega
            go_wp2_with fail
            go_ret
            exact ⟨congrArg (fun b => Ending.returned (.bool b)) hback.out, S2.out.bel⟩

set_option maxRecDepth 100000 in
set_option maxHeartbeats 4000000 in
theorem law4_pos (kn : Nat → ByteArray) (field tkey keyField : ByteArray) (key kind : Int) (name : ByteArray) (out ts D : ByteArray) (b : Nat → Int) (i0 L u : Nat) (w : World) (T : Hid (Tabs w kn))
    (e1 : Hid (out = stepStr tkey key ts ∧ ts = typStr kn kind name))
    (B : Hid ((-9223372036854775808 ≤ key ∧ key ≤ 9223372036854775807) ∧ (-9223372036854775808 ≤ kind ∧ kind ≤ 9223372036854775807)))
    (hf : field.size ≤ 262144) (ht : tkey.size ≤ 262144) (hk : keyField.size ≤ 262144) (hn : name.size ≤ 262144) (hts : ts.size ≤ 262144)
    (z1 : out.size = i0 + L + (ts.size + 3)) (hi0 : Hid (i0 = 1 + tkey.size + 1)) (L1 : 1 ≤ L) (L2 : L ≤ 19)
    (hget : ∀ (i : Nat) (h : i < out.size), ((out[i].toNat : Nat) : Int) = b i) (b0 : b 0 = 40) (bq : b (1 + tkey.size) = 32)
    (x1 : (out.extract 1 (1 + tkey.size)).toList = tkey.toList) (bs : (b (1 + tkey.size + 1) == 45) = false) (hneg : 0 ≤ key) (hmag : IntKind.u64.wrap key = (u : Int))
    (hdig : Hid (∀ t, t < L → 48 ≤ b (i0 + t) ∧ b (i0 + t) ≤ 57)) (hend : Hid (b (i0 + L) = 58)) (hD : Hid (out.extract i0 (i0 + L) = D)) (hDs : D.size = L)
    (hDget : ∀ (i : Nat) (h : i < D.size), ((D[i].toNat : Nat) : Int) = b (i0 + i)) (hlead : Hid (1 < L → b (i0 + 0) ≠ 48))
    (V : Nat → Nat) (hV0 : Hid (V 0 = 0)) (hVs : Hid (∀ t, t < L → (V (t + 1) : Int) = V t * 10 + (b (i0 + t) - 48))) (hVL : Hid (V L = u)) (hVlt : Hid (∀ t, t ≤ L → V t < 10000000000000000000))
    (hback : Hid (((out.extract (i0 + L) (i0 + L + (ts.size + 3))).toList == (⟨#[58, 32]⟩ ++ ts ++ ⟨#[41]⟩ : ByteArray).toList) = true)) :
    Calls Tryd.prog 4 #[.string field, .string tkey, .string keyField, .int .i64 key, .int .i64 kind, .string name] w (Yes w) := by
  have hz : i0 = 1 + tkey.size + 1 := hi0.out
  have r1 : (0 : Int) < i0 + L + (ts.size + 3) := by omega
  have r2 : (1 : Int) + tkey.size < i0 + L + (ts.size + 3) := by omega
  have r3 : (1 : Int) + tkey.size + 1 < i0 + L + (ts.size + 3) := by omega
  have r4 : (0 : Int) ≤ 1 + tkey.size := by omega
  have r5 : (0 : Int) ≤ 1 + tkey.size + 1 := by omega
  have r6 : (1 : Int) + tkey.size + 1 + 1 ≤ i0 + L + (ts.size + 3) := by omega
  have ez : 1 + (tkey.size : Int) + 1 = (i0 : Int) := by omega
  have EZ : Hid (1 + (tkey.size : Int) + 1 = (i0 : Int)) := ez
  have i0le : i0 ≤ 262148 := by omega
  clear hz ez
  go_enter Tryd.func4, Tryd.ntmps4
  go_wp2_with fail
  refine (bytes8_any field tkey keyField key kind name w).mono ?_
  rintro e w0 ⟨y, rfl, rfl⟩
  cases y
  · go_wp2_with fail
    go_ret
    exact ⟨rfl, Below.refl _ _⟩
  go_wp2_with fail
  obtain ⟨W, HW⟩ : ∃ W, Hid (Set2 kn w.heap.size (w.heap.size + 1) tkey kind name w W) ∧ ((w.alloc (Obj.cells #[Value.pointer none, Value.string field, Value.string tkey, Value.string keyField, Value.map none] 26)).alloc (Obj.cells
        #[Value.int IntKind.i64 kind, Value.string name, Value.int IntKind.i64 0, Value.int IntKind.u64 0,
          Value.bool false, Value.bool false, Value.bool false, Value.int IntKind.i64 0, Value.int IntKind.u64 0,
          Value.bool false, Value.bool false, Value.bool false, Value.bool false, Value.slice none 0 0,
          Value.slice none 0 0, Value.slice none 0 0, Value.slice none 0 0, Value.pointer none, Value.pointer none,
          Value.string { data := #[] }, Value.pointer none]
        35)) = W := ⟨_, Set2.mk0 T.out _ _ _ _ rfl rfl rfl, rfl⟩
  rw [HW.2]
  obtain ⟨S0, -⟩ := HW
  refine (step_any kn w.heap.size (w.heap.size + 1) tkey key kind name ts e1.out.2 B.out.2.1 B.out.2.2 B.out.1.1 B.out.1.2 (by omega) (by omega) W S0.out.tabs S0.out.c0 S0.out.c1 S0.out.c2).mono ?_
  rintro e W1 ⟨rfl, hb⟩
  have S1 : Hid (Set2 kn w.heap.size (w.heap.size + 1) tkey kind name w W1) := S0.out.go hb
  clear S0 hb
  rw [← e1.out.1]
  go_wp2_with fail
  refine (typStr_any kn (w.heap.size + 1) kind name B.out.2.1 B.out.2.2 W1 S1.out.tabs S1.out.c0 S1.out.c1).mono ?_
  rintro e W2 ⟨rfl, hb⟩
  have S2 : Hid (Set2 kn w.heap.size (w.heap.size + 1) tkey kind name w W2) := S1.out.go hb
  clear S1 hb
  rw [← e1.out.2]
  go_wp2_with fail
  rw [EZ.out]
  clear r1 r2 r3 r4 r5 r6 x1 b0 bq bs
  go_loop [20] (fun v => ∃ t : Nat, t ≤ L ∧ v = .int .i64 ((i0 : Int) + t)) (fun v => i0 + L - (intOf v).toNat)
  case atStart => exact ⟨0, Nat.zero_le _, by simp⟩
  case round =>
    obtain ⟨t, htL, rfl⟩ := hrel
    have s1 : (i0 : Int) + t < i0 + L + (ts.size + 3) := by omega
    have s0 : (0 : Int) ≤ i0 + t := by omega
    by_cases hlt : t < L
    · have hd := hdig.out t hlt
      have hbt : (decide (b (i0 + t) < 48) || decide (57 < b (i0 + t))) = false := by simp; omega
      go_wp2_with fail
      refine (zzNotDigit_any (b (i0 + t)) W2).mono ?_
      rintro e w' ⟨rfl, rfl⟩
      rw [hbt]
      clear hd hbt
      go_wp2_with fail
      go_round
      case rel =>
        exact ⟨t + 1, by omega, congrArg (Value.int .i64) (by omega)⟩
      case measure => simp [intOf]; omega
    · obtain rfl : t = L := by omega
      have hbt : b (i0 + t) = 58 := hend.out
      go_wp2_with fail
      refine (zzNotDigit_any 58 W2).mono ?_
      rintro e w' ⟨rfl, rfl⟩
      have hd := hD.out
      have hl : 1 < t → b i0 ≠ 48 := hlead.out
      have s2 : (i0 : Int) ≤ i0 + t := by omega
      have s3 : (i0 : Int) + t ≤ i0 + t + (ts.size + 3) := by omega
      have tn : ((t : Int) == 0) = false := int_eq_false (by omega)
      have t19 : (t : Int) ≤ 19 := by omega
      have hm0 := hVL.out
      have c1 : ¬ 9223372036854775807 < 2 + ts.size := by omega
      have c2 : ¬ 9223372036854775807 < 2 + ts.size + 1 := by omega
      go_wp2_with fail
      all_goals
        go_loop [22, 23] (fun v k => ∃ m : Nat, m ≤ t ∧ k = .int .i64 m ∧ v = .int .u64 (V m)) (fun _ k => t - (intOf k).toNat)
        case atStart => exact ⟨0, Nat.zero_le _, rfl, by rw [hV0.out]; rfl⟩
        case round =>
          obtain ⟨m, hm, rfl, rfl⟩ := hrel
          by_cases hml : m < t
          · have g := hdig.out m hml
            have g0 := hVs.out m hml
            have g1 := hVlt.out (m + 1) hml
            have g2 : (V m : Int) * 10 ≤ 10000000000000000000 := by omega
            have g3 : (V m : Int) * 10 + (b (i0 + m) - 48) ≤ 10000000000000000000 := by omega
            go_wp2_with fail
            exact ⟨⟨m + 1, hml, congrArg (Value.int .i64) (by omega), congrArg (Value.int .u64) g0.symm⟩, by simp [intOf]; omega⟩
          · obtain rfl : m = t := by omega
            go_wp2_with fail
            go_ret
            exact ⟨congrArg (fun b => Ending.returned (.bool b)) hback.out, S2.out.bel⟩
end Go.Proofs.Qxb6608862aDoor
