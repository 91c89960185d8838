import Derived.Test.Qxb6608862aDoorLaw5
import Derived.Test.Qxb6608862aDoorNum
namespace Go.Proofs.Qxb6608862aDoor
open Go.RowKit

theorem kindStr_size (kn : Nat → ByteArray) (hkn : ∀ k, k < 13 → (kn k).size ≤ 100) (k : Int) (h0 : -9223372036854775808 ≤ k) (h1 : k ≤ 9223372036854775807) : (kindStr kn k).size ≤ 100 := by
  unfold kindStr
  split
  · exact hkn _ (by omega)
  · have := Lib.itoa_length_le k h0 h1
    have e : (⟨#[75, 105, 110, 100, 40]⟩ ++ ⟨(Lib.itoa k).toArray⟩ ++ ⟨#[41]⟩ : ByteArray).size = 5 + (Lib.itoa k).length + 1 := by
      simp [ByteArray.size]; omega
    omega
theorem typStr_size (kn : Nat → ByteArray) (hkn : ∀ k, k < 13 → (kn k).size ≤ 100) (k : Int) (h0 : -9223372036854775808 ≤ k) (h1 : k ≤ 9223372036854775807) (name : ByteArray) (hn : name.size ≤ 262144) : (typStr kn k name).size ≤ 262144 := by
  unfold typStr
  split
  · have := kindStr_size kn hkn k h0 h1; omega
  · exact hn
theorem wid_le (k : Int) (h0 : -9223372036854775808 ≤ k) (h1 : k ≤ 9223372036854775807) : wid k ≤ 25 := by
  have := Lib.itoa_length_le k h0 h1
  rw [itoa_length] at this
  omega

theorem law5_any (kn : Nat → ByteArray) (hkn : ∀ k, k < 13 → (kn k).size ≤ 100) (field tkey keyField : ByteArray) (k1 k2 kind : Int) (name : ByteArray) (w : World) (T : Hid (Tabs w kn))
    (B : Hid ((-9223372036854775808 ≤ k1 ∧ k1 ≤ 9223372036854775807) ∧ (-9223372036854775808 ≤ k2 ∧ k2 ≤ 9223372036854775807) ∧ (-9223372036854775808 ≤ kind ∧ kind ≤ 9223372036854775807))) :
    Calls Tryd.prog 5 #[.string field, .string tkey, .string keyField, .int .i64 k1, .int .i64 k2, .int .i64 kind, .string name] w (Yes w) := by
  by_cases hf : field.size ≤ 262144
  · by_cases ht : tkey.size ≤ 262144
    · by_cases hk : keyField.size ≤ 262144
      · by_cases hn : name.size ≤ 262144
        · exact law5_main kn field tkey keyField k1 k2 kind name _ _ _ w T ⟨rfl, rfl, rfl⟩ B hf ht hk hn (typStr_size kn hkn kind B.out.2.2.1 B.out.2.2.2 name hn) (step_eq _ _ _ _) _ _ (stepStr_size _ _ _) (stepStr_size _ _ _) rfl rfl
            (wid_pos _) (wid_le _ B.out.1.1 B.out.1.2) (wid_pos _) (wid_le _ B.out.2.1.1 B.out.2.1.2) (step_front _ _ _ _) (step_back_eq _ _ _ _)
        · go_enter Tryd.func5, Tryd.ntmps5
          go_wp2_with fail
          refine (bytes10_any field tkey keyField k1 k2 kind name w).mono ?_
          rintro e w0 ⟨y, rfl, rfl⟩
          cases y
          all_goals
            go_wp2_with fail
            go_ret
            exact ⟨rfl, Below.refl _ _⟩
      · go_enter Tryd.func5, Tryd.ntmps5
        go_wp2_with fail
        refine (bytes10_any field tkey keyField k1 k2 kind name w).mono ?_
        rintro e w0 ⟨y, rfl, rfl⟩
        cases y
        all_goals
          go_wp2_with fail
          go_ret
          exact ⟨rfl, Below.refl _ _⟩
    · go_enter Tryd.func5, Tryd.ntmps5
      go_wp2_with fail
      refine (bytes10_any field tkey keyField k1 k2 kind name w).mono ?_
      rintro e w0 ⟨y, rfl, rfl⟩
      cases y
      all_goals
        go_wp2_with fail
        go_ret
        exact ⟨rfl, Below.refl _ _⟩
  · go_enter Tryd.func5, Tryd.ntmps5
    go_wp2_with fail
    refine (bytes10_any field tkey keyField k1 k2 kind name w).mono ?_
    rintro e w0 ⟨y, rfl, rfl⟩
    cases y
    all_goals
      go_wp2_with fail
      go_ret
      exact ⟨rfl, Below.refl _ _⟩
end Go.Proofs.Qxb6608862aDoor
