import Derived.Test.Qxb6606019aProg
import Derived.Test.Qxb6606019aMem
import Derived.WalkSpells
import Derived.Handy
namespace Go.Proofs.Qxb6606019a
open Go.RowKit

theorem Try.info3 : (Try.prog.info? 3).map (fun i => (i.zero, i.size, i.bytes)) = some (some (.int .i64 0), 1, 8) := by kernel_rfl
theorem Try.info21 : (Try.prog.info? 21).map (fun i => (i.zero, i.size, i.bytes)) = some (some (.int .i32 0), 1, 4) := by kernel_rfl
theorem Try.info82 : (Try.prog.info? 82).map (fun i => (i.zero, i.size, i.bytes)) = some (some (.int .i8 0), 1, 1) := by kernel_rfl
theorem Try.info2 : (Try.prog.info? 2).map (fun i => (i.zero, i.size, i.bytes)) = some (some (.int .i64 0), 1, 8) := by kernel_rfl
theorem Try.info83 : (Try.prog.info? 83).map (fun i => (i.zero, i.size, i.bytes)) = some (some (.agg #[.int .i32 0, .int .i32 0]), 2, 8) := by kernel_rfl

theorem make_row {P : Program} (t e : TypeId) (z : Value) (size bytes : Nat) (ht : P.underlying t = some (.slice e)) (hinfo : (P.info? e).map (fun i => (i.zero, i.size, i.bytes)) = some (some z, size, bytes))
    (n : Nat) (hn : bytes * n ≤ 281474976710656) (h63 : n ≤ 9223372036854775807) (w : World) :
    (Instr.makeSlice t (.int .i64 (n : Int)) (.int .i64 (n : Int))).run P w = .ok (.slice (some ⟨w.heap.size, 0, none⟩) n n) (w.alloc (.cells (madeCells z.cells (n * size)) e)) := by
  obtain ⟨i, hi, hz0, hz1, hz2⟩ := info_parts hinfo
  have h := run_make (P := P) w t e i z ht hi hz0 .i64 .i64 n n (by omega) (by omega) (by rw [hz2]; omega) (by omega)
  rw [hz1] at h
  simpa using h

theorem cells_put {w : World} {g k s : Nat} {f : Nat → Value} (h : Blk w g s) (hk : k < s) (hc : ∀ i, i < k → w.cell? ⟨g, i, none⟩ = some (f i)) :
    ∀ i, i < k + 1 → (w.setCell ⟨g, k, none⟩ (f k)).cell? ⟨g, i, none⟩ = some (f i) := by
  intro i hi
  by_cases e : i = k
  · subst e; exact cell_set_same h hk _
  · rw [cell_set_off e]; exact hc i (by omega)

/-- What a copy of a slice leaves: a slice of the same numbers; nothing old has turned. -/
def Copied (k : IntKind) (n : Nat) (f : Nat → Int) (w : World) (e : Ending) (w' : World) : Prop :=
  ∃ a' c', e = .returned (.slice a' n c') ∧ Below w.heap.size w w' ∧ Ints w'.heap.size w' a' k n f

set_option maxHeartbeats 1000000 in
theorem copy18_some (b o : Nat) (sp : Option Nat) (n c : Nat) (f : Nat → Int) (hn : n ≤ 65536) (w : World) (hc : Hid (∀ i, i < n → sp = none ∧ b < w.heap.size ∧ w.cell? ⟨b, o + i, none⟩ = some (.int .i64 (f i)))) :
    Calls Try.prog 18 #[.slice (some ⟨b, o, sp⟩) n c] w (Copied .i64 n f w) := by
  have hmk := make_row 49 3 _ _ _ Try.underlying49 Try.info3 n (by omega) (by omega)
  have heq := fun w => Lib.run_eql_slice_nil (P := Try.prog) (w := w)
  go_enter Try.func18, Try.ntmps18
  go_wp2
  clear hmk heq
  go_loopw [4] (fun i wr => ∃ k : Nat, k ≤ n ∧ i = .int .i64 k ∧ Hid (Below w.heap.size w wr ∧ Blk wr w.heap.size n ∧ ∀ i, i < k → wr.cell? ⟨w.heap.size, i, none⟩ = some (.int .i64 (f i)))) (fun i _ => n - (intOf i).toNat)
  case atStart => exact ⟨0, Nat.zero_le _, rfl, (Below.refl _ _).alloc (Nat.le_refl _) _, Blk.made _ _ _ _ (by simp [size_madeCells]), fun i hi => by omega⟩
  case round =>
    obtain ⟨k, hk, rfl, HR⟩ := hrel
    by_cases hlt : k < n
    · obtain ⟨rfl, hb, hcw⟩ := hc.out k hlt
      have hcx : wr.cell? ⟨b, o + k, none⟩ = some (.int .i64 (f k)) := (HR.out.1.cell (p := ⟨b, o + k, none⟩) hb).trans hcw
      clear hcw hb
      obtain ⟨v, hv⟩ := HR.out.2.1.cell hlt
      have hfz := HR.out.2.1.frozen k
      go_wp2
      go_roundw
      case rel => exact ⟨k + 1, by omega, by go_num, HR.out.1.setCell (Nat.le_refl _) _, HR.out.2.1.setCell _ _, cells_put (f := fun i => .int .i64 (f i)) HR.out.2.1 hlt HR.out.2.2⟩
      case measure => simp [intOf]; omega
    · go_wp2
      go_ret
      obtain rfl : k = n := by omega
      exact ⟨_, _, rfl, HR.out.1, .inr ⟨_, 0, rfl, HR.out.2.1.lt, fun i hi => by rw [Nat.zero_add]; exact HR.out.2.2 i hi⟩⟩

theorem copy18_any (a : Option Addr) (n c : Nat) (f : Nat → Int) (hn : n ≤ 65536) (w : World) (ha : Ints w.heap.size w a .i64 n f) (hnil : a = none → n = 0 ∧ c = 0) :
    Calls Try.prog 18 #[.slice a n c] w (Copied .i64 n f w) := by
  cases a with
  | none =>
    obtain ⟨rfl, rfl⟩ := hnil rfl
    have heq := fun w => Lib.run_eql_slice_nil (P := Try.prog) (w := w)
    go_enter Try.func18, Try.ntmps18
    go_wp2
    go_ret
    exact ⟨none, 0, rfl, Below.refl _ _, .inl rfl⟩
  | some x =>
    refine copy18_some x.block x.off x.spot n c f hn w ?_
    rcases ha with rfl | ⟨b, o, ha, hb, hc⟩
    · exact fun i hi => by omega
    · obtain rfl : x = ⟨b, o, none⟩ := by simpa using ha
      exact fun i hi => ⟨rfl, hb, hc i hi⟩

set_option maxHeartbeats 1000000 in
theorem copy19_some (b o : Nat) (sp : Option Nat) (n c : Nat) (f : Nat → Int) (hn : n ≤ 65536) (w : World) (hc : Hid (∀ i, i < n → sp = none ∧ b < w.heap.size ∧ w.cell? ⟨b, o + i, none⟩ = some (.int .i32 (f i)))) :
    Calls Try.prog 19 #[.slice (some ⟨b, o, sp⟩) n c] w (Copied .i32 n f w) := by
  have hmk := make_row 50 21 _ _ _ Try.underlying50 Try.info21 n (by omega) (by omega)
  have heq := fun w => Lib.run_eql_slice_nil (P := Try.prog) (w := w)
  go_enter Try.func19, Try.ntmps19
  go_wp2
  clear hmk heq
  go_loopw [4] (fun i wr => ∃ k : Nat, k ≤ n ∧ i = .int .i64 k ∧ Hid (Below w.heap.size w wr ∧ Blk wr w.heap.size n ∧ ∀ i, i < k → wr.cell? ⟨w.heap.size, i, none⟩ = some (.int .i32 (f i)))) (fun i _ => n - (intOf i).toNat)
  case atStart => exact ⟨0, Nat.zero_le _, rfl, (Below.refl _ _).alloc (Nat.le_refl _) _, Blk.made _ _ _ _ (by simp [size_madeCells]), fun i hi => by omega⟩
  case round =>
    obtain ⟨k, hk, rfl, HR⟩ := hrel
    by_cases hlt : k < n
    · obtain ⟨rfl, hb, hcw⟩ := hc.out k hlt
      have hcx : wr.cell? ⟨b, o + k, none⟩ = some (.int .i32 (f k)) := (HR.out.1.cell (p := ⟨b, o + k, none⟩) hb).trans hcw
      clear hcw hb
      obtain ⟨v, hv⟩ := HR.out.2.1.cell hlt
      have hfz := HR.out.2.1.frozen k
      go_wp2
      go_roundw
      case rel => exact ⟨k + 1, by omega, by go_num, HR.out.1.setCell (Nat.le_refl _) _, HR.out.2.1.setCell _ _, cells_put (f := fun i => .int .i32 (f i)) HR.out.2.1 hlt HR.out.2.2⟩
      case measure => simp [intOf]; omega
    · go_wp2
      go_ret
      obtain rfl : k = n := by omega
      exact ⟨_, _, rfl, HR.out.1, .inr ⟨_, 0, rfl, HR.out.2.1.lt, fun i hi => by rw [Nat.zero_add]; exact HR.out.2.2 i hi⟩⟩

theorem copy19_any (a : Option Addr) (n c : Nat) (f : Nat → Int) (hn : n ≤ 65536) (w : World) (ha : Ints w.heap.size w a .i32 n f) (hnil : a = none → n = 0 ∧ c = 0) :
    Calls Try.prog 19 #[.slice a n c] w (Copied .i32 n f w) := by
  cases a with
  | none =>
    obtain ⟨rfl, rfl⟩ := hnil rfl
    have heq := fun w => Lib.run_eql_slice_nil (P := Try.prog) (w := w)
    go_enter Try.func19, Try.ntmps19
    go_wp2
    go_ret
    exact ⟨none, 0, rfl, Below.refl _ _, .inl rfl⟩
  | some x =>
    refine copy19_some x.block x.off x.spot n c f hn w ?_
    rcases ha with rfl | ⟨b, o, ha, hb, hc⟩
    · exact fun i hi => by omega
    · obtain rfl : x = ⟨b, o, none⟩ := by simpa using ha
      exact fun i hi => ⟨rfl, hb, hc i hi⟩

set_option maxHeartbeats 1000000 in
theorem copy20_some (b o : Nat) (sp : Option Nat) (n c : Nat) (f : Nat → Int) (hn : n ≤ 65536) (w : World) (hc : Hid (∀ i, i < n → sp = none ∧ b < w.heap.size ∧ w.cell? ⟨b, o + i, none⟩ = some (.int .i8 (f i)))) :
    Calls Try.prog 20 #[.slice (some ⟨b, o, sp⟩) n c] w (Copied .i8 n f w) := by
  have hmk := make_row 51 82 _ _ _ Try.underlying51 Try.info82 n (by omega) (by omega)
  have heq := fun w => Lib.run_eql_slice_nil (P := Try.prog) (w := w)
  go_enter Try.func20, Try.ntmps20
  go_wp2
  clear hmk heq
  go_loopw [4] (fun i wr => ∃ k : Nat, k ≤ n ∧ i = .int .i64 k ∧ Hid (Below w.heap.size w wr ∧ Blk wr w.heap.size n ∧ ∀ i, i < k → wr.cell? ⟨w.heap.size, i, none⟩ = some (.int .i8 (f i)))) (fun i _ => n - (intOf i).toNat)
  case atStart => exact ⟨0, Nat.zero_le _, rfl, (Below.refl _ _).alloc (Nat.le_refl _) _, Blk.made _ _ _ _ (by simp [size_madeCells]), fun i hi => by omega⟩
  case round =>
    obtain ⟨k, hk, rfl, HR⟩ := hrel
    by_cases hlt : k < n
    · obtain ⟨rfl, hb, hcw⟩ := hc.out k hlt
      have hcx : wr.cell? ⟨b, o + k, none⟩ = some (.int .i8 (f k)) := (HR.out.1.cell (p := ⟨b, o + k, none⟩) hb).trans hcw
      clear hcw hb
      obtain ⟨v, hv⟩ := HR.out.2.1.cell hlt
      have hfz := HR.out.2.1.frozen k
      go_wp2
      go_roundw
      case rel => exact ⟨k + 1, by omega, by go_num, HR.out.1.setCell (Nat.le_refl _) _, HR.out.2.1.setCell _ _, cells_put (f := fun i => .int .i8 (f i)) HR.out.2.1 hlt HR.out.2.2⟩
      case measure => simp [intOf]; omega
    · go_wp2
      go_ret
      obtain rfl : k = n := by omega
      exact ⟨_, _, rfl, HR.out.1, .inr ⟨_, 0, rfl, HR.out.2.1.lt, fun i hi => by rw [Nat.zero_add]; exact HR.out.2.2 i hi⟩⟩

theorem copy20_any (a : Option Addr) (n c : Nat) (f : Nat → Int) (hn : n ≤ 65536) (w : World) (ha : Ints w.heap.size w a .i8 n f) (hnil : a = none → n = 0 ∧ c = 0) :
    Calls Try.prog 20 #[.slice a n c] w (Copied .i8 n f w) := by
  cases a with
  | none =>
    obtain ⟨rfl, rfl⟩ := hnil rfl
    have heq := fun w => Lib.run_eql_slice_nil (P := Try.prog) (w := w)
    go_enter Try.func20, Try.ntmps20
    go_wp2
    go_ret
    exact ⟨none, 0, rfl, Below.refl _ _, .inl rfl⟩
  | some x =>
    refine copy20_some x.block x.off x.spot n c f hn w ?_
    rcases ha with rfl | ⟨b, o, ha, hb, hc⟩
    · exact fun i hi => by omega
    · obtain rfl : x = ⟨b, o, none⟩ := by simpa using ha
      exact fun i hi => ⟨rfl, hb, hc i hi⟩

set_option maxHeartbeats 1000000 in
theorem copy21_some (b o : Nat) (sp : Option Nat) (n c : Nat) (f : Nat → Int) (hn : n ≤ 65536) (w : World) (hc : Hid (∀ i, i < n → sp = none ∧ b < w.heap.size ∧ w.cell? ⟨b, o + i, none⟩ = some (.int .i64 (f i)))) :
    Calls Try.prog 21 #[.slice (some ⟨b, o, sp⟩) n c] w (Copied .i64 n f w) := by
  have hmk := make_row 52 2 _ _ _ Try.underlying52 Try.info2 n (by omega) (by omega)
  have heq := fun w => Lib.run_eql_slice_nil (P := Try.prog) (w := w)
  go_enter Try.func21, Try.ntmps21
  go_wp2
  clear hmk heq
  go_loopw [4] (fun i wr => ∃ k : Nat, k ≤ n ∧ i = .int .i64 k ∧ Hid (Below w.heap.size w wr ∧ Blk wr w.heap.size n ∧ ∀ i, i < k → wr.cell? ⟨w.heap.size, i, none⟩ = some (.int .i64 (f i)))) (fun i _ => n - (intOf i).toNat)
  case atStart => exact ⟨0, Nat.zero_le _, rfl, (Below.refl _ _).alloc (Nat.le_refl _) _, Blk.made _ _ _ _ (by simp [size_madeCells]), fun i hi => by omega⟩
  case round =>
    obtain ⟨k, hk, rfl, HR⟩ := hrel
    by_cases hlt : k < n
    · obtain ⟨rfl, hb, hcw⟩ := hc.out k hlt
      have hcx : wr.cell? ⟨b, o + k, none⟩ = some (.int .i64 (f k)) := (HR.out.1.cell (p := ⟨b, o + k, none⟩) hb).trans hcw
      clear hcw hb
      obtain ⟨v, hv⟩ := HR.out.2.1.cell hlt
      have hfz := HR.out.2.1.frozen k
      go_wp2
      go_roundw
      case rel => exact ⟨k + 1, by omega, by go_num, HR.out.1.setCell (Nat.le_refl _) _, HR.out.2.1.setCell _ _, cells_put (f := fun i => .int .i64 (f i)) HR.out.2.1 hlt HR.out.2.2⟩
      case measure => simp [intOf]; omega
    · go_wp2
      go_ret
      obtain rfl : k = n := by omega
      exact ⟨_, _, rfl, HR.out.1, .inr ⟨_, 0, rfl, HR.out.2.1.lt, fun i hi => by rw [Nat.zero_add]; exact HR.out.2.2 i hi⟩⟩

theorem copy21_any (a : Option Addr) (n c : Nat) (f : Nat → Int) (hn : n ≤ 65536) (w : World) (ha : Ints w.heap.size w a .i64 n f) (hnil : a = none → n = 0 ∧ c = 0) :
    Calls Try.prog 21 #[.slice a n c] w (Copied .i64 n f w) := by
  cases a with
  | none =>
    obtain ⟨rfl, rfl⟩ := hnil rfl
    have heq := fun w => Lib.run_eql_slice_nil (P := Try.prog) (w := w)
    go_enter Try.func21, Try.ntmps21
    go_wp2
    go_ret
    exact ⟨none, 0, rfl, Below.refl _ _, .inl rfl⟩
  | some x =>
    refine copy21_some x.block x.off x.spot n c f hn w ?_
    rcases ha with rfl | ⟨b, o, ha, hb, hc⟩
    · exact fun i hi => by omega
    · obtain rfl : x = ⟨b, o, none⟩ := by simpa using ha
      exact fun i hi => ⟨rfl, hb, hc i hi⟩

end Go.Proofs.Qxb6606019a
