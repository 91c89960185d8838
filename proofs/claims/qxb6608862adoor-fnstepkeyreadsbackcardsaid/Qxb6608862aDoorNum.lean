import Derived.Test.Qxb6608862aDoorWidth
namespace Go.Proofs.Qxb6608862aDoor
open Go.Lib

/-- What the digits read as. -/
def val (l : List UInt8) : Nat := l.foldl (fun v b => v * 10 + (b.toNat - 48)) 0

theorem digit_nat (d : Nat) (h : d < 10) : (UInt8.ofNat (48 + d)).toNat = 48 + d := by
  rw [UInt8.toNat_ofNat']; omega
theorem dec_range : ∀ (u : Nat) (b : UInt8), b ∈ decDigits u → 48 ≤ b.toNat ∧ b.toNat ≤ 57 := by
  intro u
  induction u using Nat.strongRecOn with
  | _ u ih =>
    intro b hb
    rw [decDigits] at hb
    split at hb
    · rename_i h
      simp only [List.mem_singleton] at hb
      subst hb
      rw [digit_nat u h]; omega
    · rename_i h
      simp only [List.mem_append, List.mem_singleton] at hb
      rcases hb with hb | rfl
      · exact ih (u / 10) (by omega) b hb
      · rw [digit_nat _ (by omega)]; omega
theorem val_dec : ∀ u : Nat, val (decDigits u) = u := by
  intro u
  induction u using Nat.strongRecOn with
  | _ u ih =>
    rw [decDigits]
    split
    · rename_i h
      simp only [val, List.foldl_cons, List.foldl_nil]
      rw [digit_nat u h]; omega
    · have := ih (u / 10) (by omega)
      simp only [val, List.foldl_append, List.foldl_cons, List.foldl_nil] at this ⊢
      rw [this, digit_nat _ (by omega)]; omega
theorem dec_inj {u v : Nat} (h : decDigits u = decDigits v) : u = v := by
  rw [← val_dec u, ← val_dec v, h]
theorem dec_ne_nil (u : Nat) : decDigits u ≠ [] := by
  intro h
  have := decDigits_length u
  have := nDigits_pos u
  simp [h] at *
  omega
theorem dec_not_minus (u : Nat) (l : List UInt8) : decDigits u ≠ 45 :: l := by
  intro h
  have := dec_range u 45 (by rw [h]; simp)
  simp at this
theorem itoa_inj {a b : Int} (h : itoa a = itoa b) : a = b := by
  unfold itoa at h
  split at h <;> split at h
  · have := dec_inj (List.cons.inj h).2; omega
  · exact absurd h.symm (dec_not_minus _ _)
  · exact absurd h (dec_not_minus _ _)
  · have := dec_inj h; omega
theorem itoa_length (k : Int) : (itoa k).length = wid k := by
  unfold itoa wid
  split
  · simp [decDigits_length]
  · exact decDigits_length _
theorem wid_pos (k : Int) : 1 ≤ wid k := by
  unfold wid
  split
  · omega
  · exact nDigits_pos _
/-- No numeral of a number that is not 0 begins with a 0. -/
theorem dec_head : ∀ (u : Nat), 1 ≤ u → ∃ b l, decDigits u = b :: l ∧ b ≠ 48 := by
  intro u
  induction u using Nat.strongRecOn with
  | _ u ih =>
    intro hu
    rw [decDigits]
    split
    · rename_i h
      refine ⟨_, [], rfl, fun e => ?_⟩
      have := digit_nat u h
      rw [e] at this
      simp at this
      omega
    · obtain ⟨b, l, e, hb⟩ := ih (u / 10) (by omega) (by omega)
      exact ⟨b, l ++ [_], by rw [e]; rfl, hb⟩

theorem stepStr_list (key : ByteArray) (n : Int) (ts : ByteArray) : (stepStr key n ts).data.toList = 40 :: (key.data.toList ++ 32 :: (itoa n ++ 58 :: 32 :: (ts.data.toList ++ [41]))) := by
  simp [stepStr]
theorem stepStr_size (key : ByteArray) (n : Int) (ts : ByteArray) : (stepStr key n ts).size = (key.size + wid n + 2) + (ts.size + 3) := by
  have := congrArg List.length (stepStr_list key n ts)
  simp [itoa_length] at this
  omega
theorem step_eq (key : ByteArray) (a b : Int) (ts : ByteArray) : (!((stepStr key a ts).toList == (stepStr key b ts).toList) == (a == b)) = false := by
  by_cases h : a = b
  · subst h; simp
  · have : (stepStr key a ts).toList ≠ (stepStr key b ts).toList := by
      intro e
      rw [ByteArray.toList_eq, ByteArray.toList_eq, stepStr_list, stepStr_list] at e
      refine h (itoa_inj ?_)
      simpa using e
    have e1 : ((stepStr key a ts).toList == (stepStr key b ts).toList) = false := beq_eq_false_iff_ne.2 this
    have e2 : (a == b) = false := beq_eq_false_iff_ne.2 h
    rw [e1, e2]; rfl
theorem ext_list (s : ByteArray) (i j : Nat) : (s.extract i j).toList = (s.data.toList.drop i).take (j - i) := by
  rw [ByteArray.toList_eq, ByteArray.data_extract]
  simp
theorem step_front (key : ByteArray) (a b : Int) (ts : ByteArray) : (!(((stepStr key a ts).extract 0 (2 + key.size)).toList == ((stepStr key b ts).extract 0 (2 + key.size)).toList)) = false := by
  have f : ∀ n, ((stepStr key n ts).extract 0 (2 + key.size)).toList = 40 :: (key.data.toList ++ [32]) := by
    intro n
    rw [ext_list, stepStr_list]
    have e : 2 + key.size - 0 = (key.data.toList.length + 1) + 1 := by simp; omega
    rw [e]
    simp [List.take_append]
    exact List.take_of_length_le (by simp)
  rw [f, f]; simp
theorem step_back (key : ByteArray) (n : Int) (ts : ByteArray) : ((stepStr key n ts).extract (key.size + wid n + 2) (key.size + wid n + 2 + (ts.size + 3))).toList = 58 :: 32 :: (ts.data.toList ++ [41]) := by
  rw [ext_list, stepStr_list]
  have e : (40 :: (key.data.toList ++ 32 :: (itoa n ++ 58 :: 32 :: (ts.data.toList ++ [41])))) = (40 :: (key.data.toList ++ 32 :: itoa n)) ++ (58 :: 32 :: (ts.data.toList ++ [41])) := by simp
  rw [e, List.drop_left' (by simp [itoa_length]; have : key.data.size = key.size := rfl; omega), List.take_of_length_le]
  simp
theorem step_back_eq (key : ByteArray) (a b : Int) (ts : ByteArray) : (((stepStr key a ts).extract (key.size + wid a + 2) (key.size + wid a + 2 + (ts.size + 3))).toList == ((stepStr key b ts).extract (key.size + wid b + 2) (key.size + wid b + 2 + (ts.size + 3))).toList) = true := by
  rw [step_back, step_back]; simp
end Go.Proofs.Qxb6608862aDoor
