import Derived.Test.Qxb6608862aBytes
import Derived.LaidEqlPtr
import Derived.Lib.Builder
namespace Go.Proofs.Qxb6608862a
open Go.RowKit

theorem first_eq {t : Nat → Bool} {j k : Nat} (hj : t j = true) (hjl : ∀ i, i < j → t i = false) (hk : t k = true) (hkl : ∀ i, i < k → t i = false) : j = k := by
  rcases Nat.lt_trichotomy j k with h | h | h
  · have := hkl j h
    rw [hj] at this; cases this
  · exact h
  · have := hjl k h
    rw [hk] at this; cases this

/-- Find where a component bears the name. -/
theorem find_hit (k : Nat) (p : Nat) (a : Option Addr) (n c : Nat) (q : Nat → Nat) (s : Nat → ByteArray) (a' : Option Addr) (n' c' : Nat) (q' : Nat → Nat) (s' : Nat → ByteArray) (name : ByteArray) (hn : n ≤ 2000000) (hn' : n' ≤ 2000000) (w : World)
    (T : Typ w p a n c q s a' n' c' q' s') (hk : k < n) (ht : eqS (s k) name = true) (hlt : ∀ i, i < k → eqS (s i) name = false) :
    Calls Try.prog 13 #[.pointer (some ⟨p, 0, none⟩), .string name] w fun e w' => e = .returned (.pointer (some ⟨q k, 0, none⟩)) ∧ Below w.heap.size w w' := by
  refine (find_any p a n c q s a' n' c' q' s' name hn hn' w T).mono ?_
  rintro e w' ⟨hb, ⟨j, hj, rfl, h1, h2⟩ | ⟨h, _⟩ | ⟨h, _⟩⟩
  · obtain rfl := first_eq (t := fun i => eqS (s i) name) h1 h2 ht hlt
    exact ⟨rfl, hb⟩
  all_goals
    have := h k hk
    rw [ht] at this; cases this
/-- Find where no component bears the name, but an addition does. -/
theorem find_add (k : Nat) (p : Nat) (a : Option Addr) (n c : Nat) (q : Nat → Nat) (s : Nat → ByteArray) (a' : Option Addr) (n' c' : Nat) (q' : Nat → Nat) (s' : Nat → ByteArray) (name : ByteArray) (hn : n ≤ 2000000) (hn' : n' ≤ 2000000) (w : World)
    (T : Typ w p a n c q s a' n' c' q' s') (hno : ∀ i, i < n → eqS (s i) name = false) (hk : k < n') (ht : eqS (s' k) name = true) (hlt : ∀ i, i < k → eqS (s' i) name = false) :
    Calls Try.prog 13 #[.pointer (some ⟨p, 0, none⟩), .string name] w fun e w' => e = .returned (.pointer (some ⟨q' k, 0, none⟩)) ∧ Below w.heap.size w w' := by
  refine (find_any p a n c q s a' n' c' q' s' name hn hn' w T).mono ?_
  rintro e w' ⟨hb, ⟨j, hj, rfl, h1, h2⟩ | ⟨_, j, hj, rfl, h1, h2⟩ | ⟨_, h, _⟩⟩
  · have := hno j hj
    rw [h1] at this; cases this
  · obtain rfl := first_eq (t := fun i => eqS (s' i) name) h1 h2 ht hlt
    exact ⟨rfl, hb⟩
  · have := h k hk
    rw [ht] at this; cases this
/-- Find where nothing bears the name. -/
theorem find_nil (p : Nat) (a : Option Addr) (n c : Nat) (q : Nat → Nat) (s : Nat → ByteArray) (a' : Option Addr) (n' c' : Nat) (q' : Nat → Nat) (s' : Nat → ByteArray) (name : ByteArray) (hn : n ≤ 2000000) (hn' : n' ≤ 2000000) (w : World)
    (T : Typ w p a n c q s a' n' c' q' s') (hno : ∀ i, i < n → eqS (s i) name = false) (hno' : ∀ i, i < n' → eqS (s' i) name = false) :
    Calls Try.prog 13 #[.pointer (some ⟨p, 0, none⟩), .string name] w fun e w' => e = .returned (.pointer none) ∧ Below w.heap.size w w' := by
  refine (find_any p a n c q s a' n' c' q' s' name hn hn' w T).mono ?_
  rintro e w' ⟨hb, ⟨j, hj, rfl, h1, h2⟩ | ⟨_, j, hj, rfl, h1, h2⟩ | ⟨_, _, rfl⟩⟩
  · have := hno j hj
    rw [h1] at this; cases this
  · have := hno' j hj
    rw [h1] at this; cases this
  · exact ⟨rfl, hb⟩

theorem cmps_of_row {w : World} {G n : Nat} {q : Nat → Nat} {s : Nat → ByteArray} (h : Row w G n q s) (m : Nat) (hm : m ≤ n) : Cmps w (some ⟨G, 0, none⟩) m q s :=
  .inr ⟨G, 0, rfl, fun i hi => by rw [Nat.zero_add]; exact ⟨(h i (by omega)).1, (h i (by omega)).2.1⟩⟩
theorem cmps_back {w : World} {G n : Nat} {q : Nat → Nat} {s : Nat → ByteArray} (h : Row w G n q s) (u : Nat) (x : Addr) (hx : u < n → x = ⟨G, u, none⟩) : Cmps w (some x) (n - u) (fun i => q (u + i)) (fun i => s (u + i)) := by
  by_cases hu : u < n
  · rw [hx hu]
    exact .inr ⟨G, u, rfl, fun i hi => ⟨(h (u + i) (by omega)).1, (h (u + i) (by omega)).2.1⟩⟩
  · exact .inl (by omega)
theorem Row.later {w w' : World} {G n : Nat} {q : Nat → Nat} {s : Nat → ByteArray} (h : Row w G n q s) (hb : Below w.heap.size w w') : Row w' G n q s :=
  fun i hi => ⟨cell_later (h i hi).1 hb, cell_later (h i hi).2.1 hb, (h i hi).2.2⟩

theorem some42 : (Try.prog.info? 42).isSome = true := by kernel_rfl
/-- A pointer to a component against itself. -/
theorem neq37 (a : Addr) (w : World) : (binOp .neq 37 (.pointer (some a)) (.pointer (some a))).run Try.prog w = .ok (.bool false) w := by
  obtain ⟨j, hj⟩ := Option.isSome_iff_exists.1 some42
  exact Lib.run_neq_ptr_same w a Try.underlying37 hj
theorem eql37 (a : Addr) (w : World) : (binOp .eql 37 (.pointer (some a)) (.pointer (some a))).run Try.prog w = .ok (.bool true) w := by
  obtain ⟨j, hj⟩ := Option.isSome_iff_exists.1 some42
  exact run_eql_ptr_same w a Try.underlying37 hj
end Go.Proofs.Qxb6608862a
