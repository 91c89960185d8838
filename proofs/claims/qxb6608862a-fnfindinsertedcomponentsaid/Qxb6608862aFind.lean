import Derived.Test.Qxb6608862aProg
import Derived.Test.Qxb6608862aMem
import Derived.WalkSpells
import Derived.Deep.QuietTactic
import Derived.BigQuiet
namespace Go.Proofs.Qxb6608862a
open Go.RowKit

/-- The closure 'c.Name == name'. -/
theorem named_any (p nb : Nat) (s name : ByteArray) (w : World) (hp : w.cell? ⟨p, 0, none⟩ = some (.string s)) (hn : w.cell? ⟨nb, 0, none⟩ = some (.string name)) :
    Calls Try.prog 18 #[.pointer (some ⟨p, 0, none⟩), .pointer (some ⟨nb, 0, none⟩)] w fun e w' => e = .returned (.bool (eqS s name)) ∧ Below w.heap.size w w' := by
  go_enter Try.func18, Try.ntmps18
  go_wp2
  go_quiet (fail)
  go_wp2
  go_ret
  exact ⟨rfl, below_draws (Below.refl _ _) _⟩

/-- What slices.IndexFunc answers: the first index whose component bears the name, or -1. -/
def Indexed (n : Nat) (s : Nat → ByteArray) (name : ByteArray) (w : World) (e : Ending) (w' : World) : Prop :=
  Below w.heap.size w w' ∧ ((e = .returned (.int .i64 (-1)) ∧ ∀ i, i < n → eqS (s i) name = false) ∨ ∃ k : Nat, k < n ∧ e = .returned (.int .i64 k) ∧ eqS (s k) name = true ∧ ∀ i, i < k → eqS (s i) name = false)

set_option maxHeartbeats 1000000 in
theorem index_any (a : Option Addr) (n c nb : Nat) (q : Nat → Nat) (s : Nat → ByteArray) (name : ByteArray) (hn : n ≤ 2000000) (w : World) (H : Hid (Cmps w a n q s)) (hnb : Hid (w.cell? ⟨nb, 0, none⟩ = some (.string name))) :
    Calls Try.prog 19 #[.slice a n c, .func (Fn.func 18) #[] #[.pointer (some ⟨nb, 0, none⟩)]] w (Indexed n s name w) := by
  go_enter Try.func19, Try.ntmps19
  go_wp2_with fail
  go_loopw [8] (fun i wr => ∃ k : Nat, k ≤ n ∧ i = .int .i64 k ∧ Hid (Below w.heap.size w wr ∧ ∀ i, i < k → eqS (s i) name = false)) (fun i _ => n - (intOf i).toNat)
  case atStart => exact ⟨0, Nat.zero_le _, rfl, Below.refl _ _, fun i hi => by omega⟩
  case round =>
    obtain ⟨k, hk, rfl, HR⟩ := hrel
    by_cases hlt : k < n
    · rcases H.out with h | ⟨b, o, rfl, hc⟩
      · omega
      have h0 := cell_later (hc k hlt).1 HR.out.1
      have H1 : Hid _ := cell_later (hc k hlt).2 HR.out.1
      clear hc
      go_wp2_with fail
      refine (named_any (q k) nb (s k) name wr H1.out (cell_later hnb.out HR.out.1)).mono ?_
      rintro e w1 ⟨rfl, hb⟩
      have HB : Hid (Below w.heap.size w w1) := later HR.out.1 hb
      clear hb
      cases ht : eqS (s k) name
      · have HT : Hid (eqS (s k) name = false) := ht
        clear ht
        go_wp2_with fail
        go_roundw
        case rel =>
          refine ⟨k + 1, by omega, by go_num, HB.out, fun i hi => ?_⟩
          rcases Nat.lt_succ_iff_lt_or_eq.1 hi with h' | rfl
          · exact HR.out.2 i h'
          · exact HT.out
        case measure => simp [intOf]; omega
      · have HT : Hid (eqS (s k) name = true) := ht
        clear ht
        go_wp2_with fail
        go_ret
        exact ⟨HB.out, .inr ⟨k, hlt, rfl, HT.out, HR.out.2⟩⟩
    · go_wp2_with fail
      go_ret
      obtain rfl : n = k := by omega
      exact ⟨HR.out.1, .inl ⟨rfl, HR.out.2⟩⟩

/-- Block p holds an asn1.Type whose Components and Additions are the two slices. -/
structure Typ (w : World) (p : Nat) (a : Option Addr) (n c : Nat) (q : Nat → Nat) (s : Nat → ByteArray) (a' : Option Addr) (n' c' : Nat) (q' : Nat → Nat) (s' : Nat → ByteArray) : Prop where
  c1 : w.cell? ⟨p, 15, none⟩ = some (.slice a n c)
  c2 : w.cell? ⟨p, 16, none⟩ = some (.slice a' n' c')
  k1 : Cmps w a n q s
  k2 : Cmps w a' n' q' s'
theorem Typ.later {w w' : World} {p : Nat} {a : Option Addr} {n c : Nat} {q : Nat → Nat} {s : Nat → ByteArray} {a' : Option Addr} {n' c' : Nat} {q' : Nat → Nat} {s' : Nat → ByteArray} (h : Typ w p a n c q s a' n' c' q' s') (hb : Below w.heap.size w w') : Typ w' p a n c q s a' n' c' q' s' :=
  ⟨cell_later h.c1 hb, cell_later h.c2 hb, h.k1.later hb, h.k2.later hb⟩

/-- What Find answers. -/
def Found (n : Nat) (q : Nat → Nat) (s : Nat → ByteArray) (n' : Nat) (q' : Nat → Nat) (s' : Nat → ByteArray) (name : ByteArray) (w : World) (e : Ending) (w' : World) : Prop :=
  Below w.heap.size w w' ∧
  ((∃ k : Nat, k < n ∧ e = .returned (.pointer (some ⟨q k, 0, none⟩)) ∧ eqS (s k) name = true ∧ ∀ i, i < k → eqS (s i) name = false) ∨
   ((∀ i, i < n → eqS (s i) name = false) ∧ ∃ k : Nat, k < n' ∧ e = .returned (.pointer (some ⟨q' k, 0, none⟩)) ∧ eqS (s' k) name = true ∧ ∀ i, i < k → eqS (s' i) name = false) ∨
   ((∀ i, i < n → eqS (s i) name = false) ∧ (∀ i, i < n' → eqS (s' i) name = false) ∧ e = .returned (.pointer none)))

set_option maxHeartbeats 1000000 in
theorem find_any (p : Nat) (a : Option Addr) (n c : Nat) (q : Nat → Nat) (s : Nat → ByteArray) (a' : Option Addr) (n' c' : Nat) (q' : Nat → Nat) (s' : Nat → ByteArray) (name : ByteArray) (hn : n ≤ 2000000) (hn' : n' ≤ 2000000) (w : World)
    (T : Hid (Typ w p a n c q s a' n' c' q' s')) :
    Calls Try.prog 13 #[.pointer (some ⟨p, 0, none⟩), .string name] w (Found n q s n' q' s' name w) := by
  have hmf : ∀ (fn : Fn) (first cap : Array Value) (w : World), (Instr.makeFunc fn first cap).run Try.prog w = .ok (.func fn first cap) w := fun _ _ _ _ => rfl
  have c1 := T.out.c1
  have hp := lt_of_cell c1
  go_enter Try.func13, Try.ntmps13
  go_wp2_with fail
  have HA : Hid (Below w.heap.size w (w.alloc (.cells #[.string name] 9)) ∧ (w.alloc (.cells #[.string name] 9)).cell? ⟨w.heap.size, 0, none⟩ = some (.string name)) := ⟨by go_grown, by simp [go_sem]⟩
  refine (index_any a n c w.heap.size q s name hn _ (T.out.k1.later HA.out.1) HA.out.2).mono ?_
  rintro e w1 ⟨hb, h⟩
  have HB : Hid (Below w.heap.size w w1 ∧ Typ w1 p a n c q s a' n' c' q' s' ∧ w1.cell? ⟨w.heap.size, 0, none⟩ = some (.string name)) :=
    ⟨later HA.out.1 hb, T.out.later (later HA.out.1 hb), cell_later HA.out.2 hb⟩
  clear hb c1 hp T HA
  rcases h with ⟨rfl, hno⟩ | ⟨k, hk, rfl, ht, hlt⟩
  · have HN : Hid (∀ i, i < n → eqS (s i) name = false) := hno
    clear hno
    have c2 := HB.out.2.1.c2
    go_wp2_with fail
    refine (index_any a' n' c' w.heap.size q' s' name hn' _ HB.out.2.1.k2 HB.out.2.2).mono ?_
    rintro e w2 ⟨hb, h⟩
    have HB2 : Hid (Below w.heap.size w w2 ∧ Typ w2 p a n c q s a' n' c' q' s') := ⟨later HB.out.1 hb, HB.out.2.1.later hb⟩
    clear hb c2
    rcases h with ⟨rfl, hno⟩ | ⟨k, hk, rfl, ht, hlt⟩
    · have HN2 : Hid (∀ i, i < n' → eqS (s' i) name = false) := hno
      clear hno
      go_wp2_with fail
      go_ret
      exact ⟨HB2.out.1, .inr (.inr ⟨HN.out, HN2.out, rfl⟩)⟩
    · have HT : Hid (eqS (s' k) name = true ∧ ∀ i, i < k → eqS (s' i) name = false) := ⟨ht, hlt⟩
      clear ht hlt
      have c2 := HB2.out.2.c2
      rcases HB2.out.2.k2 with h | ⟨b, o, rfl, hc⟩
      · omega
      have hx := (hc k hk).1
      clear hc
      go_wp2_with fail
      go_ret
      exact ⟨HB2.out.1, .inr (.inl ⟨HN.out, k, hk, rfl, HT.out.1, HT.out.2⟩)⟩
  · have HT : Hid (eqS (s k) name = true ∧ ∀ i, i < k → eqS (s i) name = false) := ⟨ht, hlt⟩
    clear ht hlt
    have c1 := HB.out.2.1.c1
    rcases HB.out.2.1.k1 with h | ⟨b, o, rfl, hc⟩
    · omega
    have hx := (hc k hk).1
    clear hc
    go_wp2_with fail
    go_ret
    exact ⟨HB.out.1, .inl ⟨k, hk, rfl, HT.out.1, HT.out.2⟩⟩

/-- What zzHas answers. -/
theorem has_any (a : Option Addr) (n c : Nat) (s : Nat → ByteArray) (name : ByteArray) (x : Bool) (hn : n ≤ 2000000) (w : World) (H : Hid (Strs w a n s)) (hx : Hid ((x = true ∧ ∃ k, k < n ∧ eqS (s k) name = true) ∨ (x = false ∧ ∀ i, i < n → eqS (s i) name = false))) :
    Calls Try.prog 14 #[.slice a n c, .string name] w fun e w' => e = .returned (.bool x) ∧ w' = w := by
  go_enter Try.func14, Try.ntmps14
  go_wp2_with fail
  go_loop [5] (fun i => ∃ k : Nat, k ≤ n ∧ i = .int .i64 k ∧ Hid (∀ i, i < k → eqS (s i) name = false)) (fun i => n - (intOf i).toNat)
  case atStart => exact ⟨0, Nat.zero_le _, rfl, fun i hi => by omega⟩
  case round =>
    obtain ⟨k, hk, rfl, HR⟩ := hrel
    by_cases hlt : k < n
    · rcases H.out with h | ⟨b, o, rfl, hc⟩
      · omega
      have h0 := hc k hlt
      clear hc
      cases ht : eqS (s k) name
      · have HT : Hid (eqS (s k) name = false) := ht
        have ht' : ((s k).toList == name.toList) = false := ht
        clear ht
        go_wp2_with fail
        go_round
        case rel =>
          refine ⟨k + 1, by omega, by go_num, fun i hi => ?_⟩
          rcases Nat.lt_succ_iff_lt_or_eq.1 hi with h' | rfl
          · exact HR.out i h'
          · exact HT.out
        case measure => simp [intOf]; omega
      · have HT : Hid (eqS (s k) name = true) := ht
        have ht' : ((s k).toList == name.toList) = true := ht
        clear ht
        go_wp2_with fail
        go_ret
        rcases hx.out with ⟨rfl, _⟩ | ⟨_, h⟩
        · exact ⟨rfl, rfl⟩
        · have := h k hlt
          rw [HT.out] at this
          cases this
    · go_wp2_with fail
      go_ret
      obtain rfl : n = k := by omega
      rcases hx.out with ⟨_, j, hj, h⟩ | ⟨rfl, _⟩
      · rw [HR.out j hj] at h
        cases h
      · exact ⟨rfl, rfl⟩

end Go.Proofs.Qxb6608862a
