import Derived.Test.Qxb6608862aDoorLaw4
import Derived.Test.Qxb6608862aDoorNum4
import Derived.Test.Qxb6608862aDoorLaw5b
namespace Go.Proofs.Qxb6608862aDoor
open Go.RowKit

theorem front {out tkey : ByteArray} {rest : List UInt8} (h : out.data.toList = 40 :: (tkey.data.toList ++ 32 :: rest)) :
    byteAt out 0 = 40 ∧ byteAt out (1 + tkey.size) = 32 ∧ (out.extract 1 (1 + tkey.size)).toList = tkey.toList ∧ byteAt out (1 + tkey.size + 1) = ((rest.getD 0 0).toNat : Int) := by
  have k : tkey.data.toList.length = tkey.size := rfl
  refine ⟨?_, ?_, ?_, ?_⟩
  · rw [byteAt, h]; rfl
  · rw [byteAt, h, Nat.add_comm 1, List.getD_eq_getElem?_getD, List.getElem?_cons_succ, List.getElem?_append_right (by omega)]
    simp [k]
  · rw [ext_list, h, List.drop_succ_cons, List.drop_zero, List.take_left' (by rw [k]; omega), ByteArray.toList_eq]
  · have e : 1 + tkey.size + 1 = (tkey.size + 1) + 1 := by omega
    rw [byteAt, h, e, List.getD_eq_getElem?_getD, List.getElem?_cons_succ, List.getElem?_append_right (by omega)]
    have e2 : tkey.size + 1 - tkey.data.toList.length = 0 + 1 := by omega
    rw [e2, List.getElem?_cons_succ, List.getD_eq_getElem?_getD]

theorem tail_eq (ts : ByteArray) : (⟨#[58, 32]⟩ ++ ts ++ ⟨#[41]⟩ : ByteArray).toList = 58 :: 32 :: (ts.data.toList ++ [41]) := by
  rw [ByteArray.toList_eq]
  simp

theorem law4_body (kn : Nat → ByteArray) (hkn : ∀ k, k < 13 → (kn k).size ≤ 100) (field tkey keyField : ByteArray) (key kind : Int) (name : ByteArray) (w : World) (T : Hid (Tabs w kn))
    (B : Hid ((-9223372036854775808 ≤ key ∧ key ≤ 9223372036854775807) ∧ (-9223372036854775808 ≤ kind ∧ kind ≤ 9223372036854775807)))
    (hf : field.size ≤ 262144) (ht : tkey.size ≤ 262144) (hk : keyField.size ≤ 262144) (hn : name.size ≤ 262144) :
    Calls Tryd.prog 4 #[.string field, .string tkey, .string keyField, .int .i64 key, .int .i64 kind, .string name] w (Yes w) := by
  have hts := typStr_size kn hkn kind B.out.2.1 B.out.2.2 name hn
  obtain ⟨ts, ets⟩ : ∃ ts, ts = typStr kn kind name := ⟨_, rfl⟩
  rw [← ets] at hts
  have hl := stepStr_list tkey key ts
  have hz := stepStr_size tkey key ts
  have k : tkey.data.toList.length = tkey.size := rfl
  have kt : ts.data.toList.length = ts.size := rfl
  have bl : 1 + (32 :: (ts.data.toList ++ [41]) : List UInt8).length = ts.size + 3 := by simp; omega
  obtain ⟨out, eout⟩ : ∃ out, out = stepStr tkey key ts := ⟨_, rfl⟩
  rw [← eout] at hl hz
  have hb := B.out.1
  rcases Int.lt_or_le key 0 with h0 | h0
  · have ei : Lib.itoa key = 45 :: Lib.decDigits key.natAbs := by rw [Lib.itoa, if_pos h0]
    have ew : wid key = Lib.nDigits key.natAbs + 1 := by rw [wid, if_pos h0]
    have hL : Lib.nDigits key.natAbs ≤ 19 := nDigits_le 18 _ (Nat.lt_of_le_of_lt (show key.natAbs ≤ 9223372036854775808 by omega) (by decide))
    rw [ei] at hl
    have G : Digs out (1 + tkey.size + 1 + 1) key.natAbs (32 :: (ts.data.toList ++ [41])) :=
      digs (pre := 40 :: (tkey.data.toList ++ [32, 45])) (by rw [hl]; simp) (by simp; omega)
    obtain ⟨f0, f1, f2, f3⟩ := front (rest := 45 :: Lib.decDigits key.natAbs ++ 58 :: 32 :: (ts.data.toList ++ [41])) hl
    have hnz : ((out.extract (1 + tkey.size + 1 + 1) (1 + tkey.size + 1 + 1 + Lib.nDigits key.natAbs)).toList == [48]) = false := by
      obtain ⟨b, l, e, hb⟩ := dec_head key.natAbs (by omega)
      rw [ByteArray.toList_eq, G.list, e]
      simp [hb]
    exact law4_neg kn field tkey keyField key kind name out ts _ (byteAt out) (1 + tkey.size + 1 + 1) (Lib.nDigits key.natAbs) key.natAbs w T ⟨eout, ets⟩ B hf ht hk hn hts (by omega) rfl
      (Lib.nDigits_pos _) hL (byteAt_get out) f0 f1 f2 f3 h0 (wrap_neg key hb.1 h0) hnz G.dig G.fin rfl G.size G.get G.lead (fun t => val ((Lib.decDigits key.natAbs).take t)) rfl G.vals G.vall (G.valt hL)
      (by have := G.back; rw [bl] at this; show (_ == _) = true; rw [this, tail_eq]; simp)
  · have ei : Lib.itoa key = Lib.decDigits key.toNat := by rw [Lib.itoa, if_neg (by omega)]
    have ew : wid key = Lib.nDigits key.toNat := by rw [wid, if_neg (by omega)]
    have hL : Lib.nDigits key.toNat ≤ 19 := nDigits_le 18 _ (Nat.lt_of_le_of_lt (show key.toNat ≤ 9223372036854775808 by omega) (by decide))
    rw [ei] at hl
    have G : Digs out (1 + tkey.size + 1) key.toNat (32 :: (ts.data.toList ++ [41])) :=
      digs (pre := 40 :: (tkey.data.toList ++ [32])) (by rw [hl]; simp) (by simp; omega)
    obtain ⟨f0, f1, f2, _⟩ := front (rest := Lib.decDigits key.toNat ++ 58 :: 32 :: (ts.data.toList ++ [41])) hl
    have f3 : (byteAt out (1 + tkey.size + 1) == 45) = false := by
      have := G.dig 0 (Lib.nDigits_pos _)
      rw [Nat.add_zero] at this
      exact int_eq_false (by omega)
    exact law4_pos kn field tkey keyField key kind name out ts _ (byteAt out) (1 + tkey.size + 1) (Lib.nDigits key.toNat) key.toNat w T ⟨eout, ets⟩ B hf ht hk hn hts (by omega) rfl
      (Lib.nDigits_pos _) hL (byteAt_get out) f0 f1 f2 f3 h0 (wrap_pos key hb.2 h0) G.dig G.fin rfl G.size G.get G.lead (fun t => val ((Lib.decDigits key.toNat).take t)) rfl G.vals G.vall (G.valt hL)
      (by have := G.back; rw [bl] at this; show (_ == _) = true; rw [this, tail_eq]; simp)

set_option maxRecDepth 100000 in
theorem law4_any (kn : Nat → ByteArray) (hkn : ∀ k, k < 13 → (kn k).size ≤ 100) (field tkey keyField : ByteArray) (key kind : Int) (name : ByteArray) (w : World) (T : Hid (Tabs w kn))
    (B : Hid ((-9223372036854775808 ≤ key ∧ key ≤ 9223372036854775807) ∧ (-9223372036854775808 ≤ kind ∧ kind ≤ 9223372036854775807))) :
    Calls Tryd.prog 4 #[.string field, .string tkey, .string keyField, .int .i64 key, .int .i64 kind, .string name] w (Yes w) := by
  by_cases hf : field.size ≤ 262144
  · by_cases ht : tkey.size ≤ 262144
    · by_cases hk : keyField.size ≤ 262144
      · by_cases hn : name.size ≤ 262144
        · exact law4_body kn hkn field tkey keyField key kind name w T B hf ht hk hn
        · go_enter Tryd.func4, Tryd.ntmps4
          go_wp2_with fail
          refine (bytes8_any field tkey keyField key kind name w).mono ?_
          rintro e w0 ⟨y, rfl, rfl⟩
          cases y
          all_goals
            go_wp2_with fail
            go_ret
            exact ⟨rfl, Below.refl _ _⟩
      · go_enter Tryd.func4, Tryd.ntmps4
        go_wp2_with fail
        refine (bytes8_any field tkey keyField key kind name w).mono ?_
        rintro e w0 ⟨y, rfl, rfl⟩
        cases y
        all_goals
          go_wp2_with fail
          go_ret
          exact ⟨rfl, Below.refl _ _⟩
    · go_enter Tryd.func4, Tryd.ntmps4
      go_wp2_with fail
      refine (bytes8_any field tkey keyField key kind name w).mono ?_
      rintro e w0 ⟨y, rfl, rfl⟩
      cases y
      all_goals
        go_wp2_with fail
        go_ret
        exact ⟨rfl, Below.refl _ _⟩
  · go_enter Tryd.func4, Tryd.ntmps4
    go_wp2_with fail
    refine (bytes8_any field tkey keyField key kind name w).mono ?_
    rintro e w0 ⟨y, rfl, rfl⟩
    cases y
    all_goals
      go_wp2_with fail
      go_ret
      exact ⟨rfl, Below.refl _ _⟩
end Go.Proofs.Qxb6608862aDoor
