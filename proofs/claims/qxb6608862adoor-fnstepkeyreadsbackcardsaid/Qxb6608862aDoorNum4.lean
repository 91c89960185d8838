import Derived.Test.Qxb6608862aDoorNum
import Derived.Lib.ItoaWalk
namespace Go.Proofs.Qxb6608862aDoor
open Go.Lib

theorem nDigits_le : ∀ (k u : Nat), u < 10 ^ (k + 1) → nDigits u ≤ k + 1
  | 0, u, h => by rw [nDigits_small (by simpa using h)]; omega
  | k + 1, u, h => by
    by_cases h10 : u < 10
    · rw [nDigits_small h10]; omega
    · rw [nDigits_big h10]
      have := nDigits_le k (u / 10) (by rw [Nat.div_lt_iff_lt_mul (by decide)]; rw [Nat.pow_succ] at h; exact h)
      omega
theorem val_snoc (l : List UInt8) (b : UInt8) : val (l ++ [b]) = val l * 10 + (b.toNat - 48) := by
  simp [val, List.foldl_append]
theorem val_lt : ∀ (n : Nat) (l : List UInt8), l.length = n → (∀ b ∈ l, b.toNat ≤ 57) → val l < 10 ^ n
  | 0, l, h, _ => by
    obtain rfl := List.eq_nil_of_length_eq_zero h
    decide
  | n + 1, l, h, hb => by
    have hl : l ≠ [] := by intro e; simp [e] at h
    have e := List.dropLast_concat_getLast hl
    rw [← e, val_snoc, Nat.pow_succ]
    have h1 := val_lt n l.dropLast (by simp [h]) (fun b hb' => hb b ((List.dropLast_sublist l).subset hb'))
    have h2 := hb (l.getLast hl) (List.getLast_mem hl)
    omega

/-- The byte at i, as a number. -/
def byteAt (s : ByteArray) (i : Nat) : Int := ((s.data.toList.getD i 0).toNat : Int)
theorem byteAt_get (s : ByteArray) (i : Nat) (h : i < s.size) : ((s[i].toNat : Nat) : Int) = byteAt s i := by
  rw [byteAt, Lib.getD_at s i h]

/-- What the law asks of the digits u that stand at i0 in the string out. -/
structure Digs (out : ByteArray) (i0 u : Nat) (back : List UInt8) : Prop where
  dig : ∀ t, t < nDigits u → 48 ≤ byteAt out (i0 + t) ∧ byteAt out (i0 + t) ≤ 57
  fin : byteAt out (i0 + nDigits u) = 58
  list : (out.extract i0 (i0 + nDigits u)).data.toList = decDigits u
  size : (out.extract i0 (i0 + nDigits u)).size = nDigits u
  get : ∀ (i : Nat) (h : i < (out.extract i0 (i0 + nDigits u)).size), (((out.extract i0 (i0 + nDigits u))[i].toNat : Nat) : Int) = byteAt out (i0 + i)
  lead : 1 < nDigits u → byteAt out (i0 + 0) ≠ 48
  vals : ∀ t, t < nDigits u → (val ((decDigits u).take (t + 1)) : Int) = val ((decDigits u).take t) * 10 + (byteAt out (i0 + t) - 48)
  vall : val ((decDigits u).take (nDigits u)) = u
  valt : nDigits u ≤ 19 → ∀ t, t ≤ nDigits u → val ((decDigits u).take t) < 10000000000000000000
  back : (out.extract (i0 + nDigits u) (i0 + nDigits u + (1 + back.length))).toList = 58 :: back

theorem digs {out : ByteArray} {i0 u : Nat} {pre back : List UInt8} (h : out.data.toList = pre ++ (decDigits u ++ 58 :: back)) (hp : pre.length = i0) : Digs out i0 u back := by
  have at' : ∀ t, byteAt out (i0 + t) = (((decDigits u ++ 58 :: back).getD t 0).toNat : Int) := by
    intro t
    rw [byteAt, h]
    simp [List.getD_eq_getElem?_getD, List.getElem?_append_right, hp]
  have len := decDigits_length u
  have atD : ∀ t (ht : t < nDigits u), byteAt out (i0 + t) = (((decDigits u)[t]'(by omega)).toNat : Int) := by
    intro t ht
    rw [at', List.getD_eq_getElem?_getD, List.getElem?_append_left (by omega), List.getElem?_eq_getElem (by omega)]
    rfl
  have lst : (out.extract i0 (i0 + nDigits u)).data.toList = decDigits u := by
    rw [← ByteArray.toList_eq, ext_list, h, List.drop_left' hp, List.take_left' (by omega)]
  have rng : ∀ t (ht : t < nDigits u), 48 ≤ ((decDigits u)[t]'(by omega)).toNat ∧ ((decDigits u)[t]'(by omega)).toNat ≤ 57 := fun t ht => dec_range u _ (List.getElem_mem _)
  have sz : (out.extract i0 (i0 + nDigits u)).size = nDigits u := by
    have e : (out.extract i0 (i0 + nDigits u)).size = (out.extract i0 (i0 + nDigits u)).data.toList.length := rfl
    rw [e, lst, len]
  refine ⟨?_, ?_, lst, sz, ?_, ?_, ?_, ?_, ?_, ?_⟩
  · intro t ht
    rw [atD t ht]
    have := rng t ht
    omega
  · rw [at', List.getD_eq_getElem?_getD, List.getElem?_append_right (by omega)]
    simp [len]
  · intro i hi
    have hi' : i < nDigits u := by rw [sz] at hi; exact hi
    rw [byteAt_get, byteAt, lst, atD i hi', List.getD_eq_getElem?_getD, List.getElem?_eq_getElem (by omega)]
    rfl
  · intro h1
    have hu : 1 ≤ u := by
      rcases Nat.eq_zero_or_pos u with rfl | h0
      · rw [nDigits_small (by decide)] at h1; omega
      · exact h0
    obtain ⟨b, l, e, hb⟩ := dec_head u hu
    rw [at', e]
    intro e2
    apply hb
    have e3 : (b.toNat : Int) = 48 := by simpa using e2
    have : b.toNat = 48 := by omega
    exact UInt8.toNat_inj.1 (by simpa using this)
  · intro t ht
    have e : (decDigits u).take (t + 1) = (decDigits u).take t ++ [(decDigits u)[t]'(by omega)] := by simp
    rw [e, val_snoc, atD t ht]
    have := rng t ht
    omega
  · rw [List.take_of_length_le (by omega), val_dec]
  · intro h19 t ht
    have h1 := val_lt t ((decDigits u).take t) (by simp; omega) (fun b hb => (dec_range u b (List.mem_of_mem_take hb)).2)
    have h2 : 10 ^ t ≤ 10 ^ 19 := Nat.pow_le_pow_right (by decide) (by omega)
    have h3 : (10 : Nat) ^ 19 = 10000000000000000000 := by decide
    omega
  · rw [ext_list, h]
    have e : pre ++ (decDigits u ++ 58 :: back) = (pre ++ decDigits u) ++ 58 :: back := by simp
    rw [e, List.drop_left' (by simp [hp, len]), List.take_of_length_le (by simp; omega)]
end Go.Proofs.Qxb6608862aDoor
