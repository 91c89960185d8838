import Derived.Test.Qxb6606019aCopy
namespace Go.Proofs.Qxb6606019a
open Go.RowKit

def Copied2 (n : Nat) (f g : Nat → Int) (w : World) (e : Ending) (w' : World) : Prop :=
  ∃ a' c', e = .returned (.slice a' n c') ∧ Below w.heap.size w w' ∧ Prs w'.heap.size w' a' n f g

set_option maxHeartbeats 1000000 in
theorem copy22_some (b o : Nat) (sp : Option Nat) (n c : Nat) (f g : Nat → Int) (hn : n ≤ 65536) (w : World)
    (hc : Hid (∀ i, i < n → sp = none ∧ b < w.heap.size ∧ w.cell? ⟨b, o + i * 2, none⟩ = some (.int .i32 (f i)) ∧ w.cell? ⟨b, o + i * 2 + 1, none⟩ = some (.int .i32 (g i)))) :
    Calls Try.prog 22 #[.slice (some ⟨b, o, sp⟩) n c] w (Copied2 n f g w) := by
  have hmk := make_row 53 83 _ _ _ Try.underlying53 Try.info83 n (by omega) (by omega)
  have heq := fun w => Lib.run_eql_slice_nil (P := Try.prog) (w := w)
  go_enter Try.func22, Try.ntmps22
  go_wp2
  clear hmk heq
  go_loopw [4] (fun i wr => ∃ k : Nat, k ≤ n ∧ i = .int .i64 k ∧ Hid (Below w.heap.size w wr ∧ Blk wr w.heap.size (n * 2) ∧ Flat wr w.heap.size (k * 2) (hT f g))) (fun i _ => n - (intOf i).toNat)
  case atStart => exact ⟨0, Nat.zero_le _, rfl, (Below.refl _ _).alloc (Nat.le_refl _) _, Blk.made _ _ _ _ (by simp [size_madeCells]), fun i hi => by omega⟩
  case round =>
    obtain ⟨k, hk, rfl, HR⟩ := hrel
    by_cases hlt : k < n
    · obtain ⟨rfl, hb, hcw, hcw'⟩ := hc.out k hlt
      have hcx : wr.cell? ⟨b, o + k * 2, none⟩ = some (.int .i32 (f k)) := (HR.out.1.cell (p := ⟨b, o + k * 2, none⟩) hb).trans hcw
      have hcx' : wr.cell? ⟨b, o + k * 2 + 1, none⟩ = some (.int .i32 (g k)) := (HR.out.1.cell (p := ⟨b, o + k * 2 + 1, none⟩) hb).trans hcw'
      clear hcw hcw' hb
      obtain ⟨v, hv⟩ := HR.out.2.1.cell (j := k * 2) (by omega)
      obtain ⟨v', hv'⟩ := HR.out.2.1.cell (j := k * 2 + 1) (by omega)
      have hfz := HR.out.2.1.frozen (k * 2)
      have hfz' := HR.out.2.1.frozen (k * 2 + 1)
      go_wp2
      go_roundw
      case rel => exact ⟨k + 1, by omega, by go_num, (HR.out.1.setCell (Nat.le_refl _) _).setCell (Nat.le_refl _) _, (HR.out.2.1.setCell _ _).setCell _ _, HR.out.2.2.putT HR.out.2.1 hlt⟩
      case measure => simp [intOf]; omega
    · go_wp2
      go_ret
      obtain rfl : k = n := by omega
      refine ⟨_, _, rfl, HR.out.1, .inr ⟨_, 0, rfl, HR.out.2.1.lt, fun i hi => ?_⟩⟩
      rw [Nat.zero_add]
      exact HR.out.2.2.getT hi

theorem copy22_any (a : Option Addr) (n c : Nat) (f g : Nat → Int) (hn : n ≤ 65536) (w : World) (ha : Prs w.heap.size w a n f g) (hnil : a = none → n = 0 ∧ c = 0) :
    Calls Try.prog 22 #[.slice a n c] w (Copied2 n f g w) := by
  cases a with
  | none =>
    obtain ⟨rfl, rfl⟩ := hnil rfl
    have heq := fun w => Lib.run_eql_slice_nil (P := Try.prog) (w := w)
    go_enter Try.func22, Try.ntmps22
    go_wp2
    go_ret
    exact ⟨none, 0, rfl, Below.refl _ _, .inl rfl⟩
  | some x =>
    refine copy22_some x.block x.off x.spot n c f g hn w ?_
    rcases ha with rfl | ⟨b, o, ha, hb, hc⟩
    · exact fun i hi => by omega
    · obtain rfl : x = ⟨b, o, none⟩ := by simpa using ha
      exact fun i hi => ⟨rfl, hb, hc i hi⟩

end Go.Proofs.Qxb6606019a
