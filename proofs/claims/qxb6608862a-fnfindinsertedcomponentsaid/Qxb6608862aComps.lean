import Derived.Test.Qxb6608862aFind
namespace Go.Proofs.Qxb6608862a
open Go.RowKit

theorem Try.info37 : (Try.prog.info? 37).map (fun i => (i.zero, i.size, i.bytes)) = some (some (.pointer none), 1, 8) := by kernel_rfl
theorem make_row {P : Program} (t e : TypeId) (z : Value) (size bytes : Nat) (ht : P.underlying t = some (.slice e)) (hinfo : (P.info? e).map (fun i => (i.zero, i.size, i.bytes)) = some (some z, size, bytes))
    (n : Nat) (hn : bytes * n ≤ 281474976710656) (h63 : n ≤ 9223372036854775807) (w : World) :
    (Instr.makeSlice t (.int .i64 (n : Int)) (.int .i64 (n : Int))).run P w = .ok (.slice (some ⟨w.heap.size, 0, none⟩) n n) (w.alloc (.cells (madeCells z.cells (n * size)) e)) := by
  obtain ⟨i, hi, hz0, hz1, hz2⟩ := info_parts hinfo
  have h := run_make (P := P) w t e i z ht hi hz0 .i64 .i64 n n (by omega) (by omega) (by rw [hz2]; omega) (by omega)
  rw [hz1] at h
  simpa using h

/-- The components made so far: slot i of block G points to block q i, beyond G, whose Name is s i. -/
def Row (w : World) (G k : Nat) (q : Nat → Nat) (s : Nat → ByteArray) : Prop :=
  ∀ i, i < k → w.cell? ⟨G, i, none⟩ = some (.pointer (some ⟨q i, 0, none⟩)) ∧ w.cell? ⟨q i, 0, none⟩ = some (.string (s i)) ∧ q i ≠ G

def Comped (n : Nat) (s : Nat → ByteArray) (w : World) (e : Ending) (w' : World) : Prop :=
  ∃ q : Nat → Nat, e = .returned (.slice (some ⟨w.heap.size, 0, none⟩) n n) ∧ Below w.heap.size w w' ∧ Blk w' w.heap.size n ∧ Row w' w.heap.size n q s

theorem row_step {w : World} {G k n : Nat} {q : Nat → Nat} {s : Nat → ByteArray} {o : Obj} (hb : Blk w G n) (hk : k < n) (hr : Row w G k q s) (hnew : ((w.setCell ⟨G, k, none⟩ (.pointer (some ⟨w.heap.size, 0, none⟩))).alloc o).cell? ⟨w.heap.size, 0, none⟩ = some (.string (s k))) :
    Row ((w.setCell ⟨G, k, none⟩ (.pointer (some ⟨w.heap.size, 0, none⟩))).alloc o) G (k + 1) (fun i => if i = k then w.heap.size else q i) s := by
  intro i hi
  have hG := hb.lt
  by_cases e : i = k
  · subst e
    simp only [if_true]
    exact ⟨cell_alloc' (cell_set_same hb hk _) _, hnew, by omega⟩
  · simp only [if_neg e]
    obtain ⟨h1, h2, h3⟩ := hr i (by omega)
    exact ⟨cell_alloc' ((cell_set_off e _).trans h1) _, cell_alloc' ((cell_set_block (a := ⟨G, k, none⟩) h3 _).trans h2) _, h3⟩

set_option maxHeartbeats 1000000 in
theorem comps_any (a : Option Addr) (n c : Nat) (s : Nat → ByteArray) (hn : n ≤ 2000000) (w : World) (H : Hid (Strs w a n s)) :
    Calls Try.prog 12 #[.slice a n c] w (Comped n s w) := by
  have hmk := make_row 27 37 _ _ _ Try.underlying27 Try.info37 n (by omega) (by omega)
  go_enter Try.func12, Try.ntmps12
  go_wp2_with fail
  clear hmk
  go_loopw [4] (fun i wr => ∃ k : Nat, k ≤ n ∧ i = .int .i64 k ∧ Hid (∃ q, Below w.heap.size w wr ∧ Blk wr w.heap.size n ∧ Row wr w.heap.size k q s)) (fun i _ => n - (intOf i).toNat)
  case atStart => exact ⟨0, Nat.zero_le _, rfl, fun _ => 0, (Below.refl _ _).alloc (Nat.le_refl _) _, Blk.made _ _ _ _ (by simp [size_madeCells]), fun i hi => by omega⟩
  case round =>
    obtain ⟨k, hk, rfl, HR⟩ := hrel
    by_cases hlt : k < n
    · obtain ⟨q, hbel, hblk, hrow⟩ := HR.out
      rcases H.out with h | ⟨b, o, rfl, hc⟩
      · omega
      have h0 := cell_later (hc k hlt) hbel
      obtain ⟨v, hv⟩ := hblk.cell hlt
      have hf := hblk.frozen k
      have hg := hblk.lt
      have HQ : Hid (Below w.heap.size w wr ∧ Blk wr w.heap.size n ∧ Row wr w.heap.size k q s) := ⟨hbel, hblk, hrow⟩
      clear hc hbel hblk hrow HR
      go_wp2_with fail
      go_roundw
      case rel =>
        obtain ⟨hbel, hblk, hrow⟩ := HQ.out
        refine ⟨k + 1, by omega, by go_num, _, ?_, ?_, row_step hblk hlt hrow ?_⟩
        · exact (hbel.setCell (Nat.le_refl _) _).alloc (by simp; omega) _
        · exact (hblk.setCell _ _).alloc _
        · simp [go_sem]
      case measure => simp [intOf]; omega
    · go_wp2_with fail
      go_ret
      obtain rfl : n = k := by omega
      obtain ⟨q, hbel, hblk, hrow⟩ := HR.out
      exact ⟨q, rfl, hbel, hblk, hrow⟩
end Go.Proofs.Qxb6608862a
