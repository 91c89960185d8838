import Derived.Test.Qxb6606019aNew
namespace Go.Proofs.Qxb6606019a
open Go.RowKit

/-- What slices.Clone leaves: a slice over a new block with the same cells. -/
def Cloned (sz n : Nat) (h : Nat → Value) (w : World) (e : Ending) (w' : World) : Prop :=
  ∃ g' c', e = .returned (.slice (some ⟨g', 0, none⟩) n c') ∧ Below w.heap.size w w' ∧ w.heap.size ≤ g' ∧ Blk w' g' (n * sz) ∧ Flat w' g' (n * sz) h

theorem cloned_of {sz n : Nat} {h : Nat → Value} {w w1 w' : World} {ty : TypeId} {v : Value} (hb : Below w.heap.size w w1) (hz : w.heap.size ≤ w1.heap.size)
    (hg : w1.grownBy w' (some w.heap.size)) (ho : w'.ownsRow w.heap.size ty sz v (0 + n) ([] ++ (List.range (n * sz)).map h)) (hnn : v ≠ .slice none 0 0) : Cloned sz n h w (.returned v) w' := by
  obtain ⟨h1, h2⟩ := ho
  rcases h2 with ⟨rfl, _⟩ | ⟨g, cap, cur, rfl, hbg, hh, hnc, hcm, hcs, htake⟩
  · exact absurd rfl hnn
  · simp only [Nat.zero_add, List.nil_append] at *
    have hcz : n * sz ≤ cur.size := by rw [hcs]; exact Nat.mul_le_mul_right _ hnc
    refine ⟨g, cap, rfl, hb.grown hg hz (fun k e => by simp at e; omega), hbg, ⟨cur, ty, hh, hcz⟩, fun x hx => ?_⟩
    have e1 : (cur.toList.take (n * sz))[x]? = some (h x) := by rw [htake]; simp [hx]
    rw [List.getElem?_take_of_lt hx] at e1
    simp [World.cell?, hh]
    simpa using e1

theorem news_of {w : World} {g s : Nat} {h : Nat → Value} (hf : Flat w g s h) (o : Obj) : ∀ j u, ((List.range s).map h)[j]? = some u → (w.alloc o).cell? ((⟨g, 0, none⟩ : Addr).add j) = some u := by
  intro j u hj
  rw [List.getElem?_map, Option.map_eq_some_iff] at hj
  obtain ⟨y, hy, rfl⟩ := hj
  obtain ⟨hj, rfl⟩ := List.getElem?_eq_some_iff.1 hy
  simp at hj
  have h2 := hf.alloc o j hj
  by_cases e : j = 0
  · subst e; simpa [Addr.add] using h2
  · simpa [Addr.add, e] using h2
theorem one_of {h : Nat → Value} (h1 : ∀ x, (h x).oneCell' = true) (s : Nat) : ∀ u ∈ (List.range s).map h, u.oneCell' = true := by
  intro u hu
  simp at hu
  obtain ⟨x, _, rfl⟩ := hu
  exact h1 x

set_option maxHeartbeats 1000000 in
theorem clone47_any (g n c : Nat) (h : Nat → Value) (hn : n ≤ 65536) (w : World) (hf : Flat w g (n * 3) h) (h1 : Hid (∀ x, (h x).oneCell' = true)) :
    Calls Try.prog 47 #[.slice (some ⟨g, 0, none⟩) n c] w (Cloned 3 n h w) := by
  have HF : Hid (Flat w g (n * 3) h) := hf
  clear hf
  have heq := fun w => Lib.run_eql_slice_nil (P := Try.prog) (w := w)
  obtain ⟨i0, hi, hz0, hz1, hz2⟩ := info_parts Try.info85
  go_enter Try.func47, Try.ntmps47
  go_wp2_with (at_builtin; refine wpList_append_own _ rfl (.tmp 5) (.tmp 6) 74 rfl w.heap.size 85 i0 _ 3 16 Try.underlying74 hi hz0 hz1 hz2 rfl (by decide) _ 0 [] rfl (World.ownsRow_lit w #[] 0 (Nat.le_refl _) (by simp [maxLen]) rfl) ⟨g, 0, none⟩ n c ((List.range (n * 3)).map h) rfl (by simp) (news_of HF.out _) (one_of h1.out _) (by unfold maxLen; omega) (by omega) (by simp) ?_; intro v' w1 hown hgrow hnil)
  go_ret
  refine cloned_of ((Below.refl _ _).alloc (Nat.le_refl _) (.cells #[] 85)) (by simp) hgrow hown (fun e => ?_)
  have := (hnil.1 e).1
  simp [Act.eval] at this

set_option maxHeartbeats 1000000 in
theorem clone48_any (g n c : Nat) (h : Nat → Value) (hn : n ≤ 65536) (w : World) (hf : Flat w g (n * 5) h) (h1 : Hid (∀ x, (h x).oneCell' = true)) :
    Calls Try.prog 48 #[.slice (some ⟨g, 0, none⟩) n c] w (Cloned 5 n h w) := by
  have HF : Hid (Flat w g (n * 5) h) := hf
  clear hf
  have heq := fun w => Lib.run_eql_slice_nil (P := Try.prog) (w := w)
  obtain ⟨i0, hi, hz0, hz1, hz2⟩ := info_parts Try.info87
  go_enter Try.func48, Try.ntmps48
  go_wp2_with (at_builtin; refine wpList_append_own _ rfl (.tmp 5) (.tmp 6) 73 rfl w.heap.size 87 i0 _ 5 40 Try.underlying73 hi hz0 hz1 hz2 rfl (by decide) _ 0 [] rfl (World.ownsRow_lit w #[] 0 (Nat.le_refl _) (by simp [maxLen]) rfl) ⟨g, 0, none⟩ n c ((List.range (n * 5)).map h) rfl (by simp) (news_of HF.out _) (one_of h1.out _) (by unfold maxLen; omega) (by omega) (by simp) ?_; intro v' w1 hown hgrow hnil)
  go_ret
  refine cloned_of ((Below.refl _ _).alloc (Nat.le_refl _) (.cells #[] 87)) (by simp) hgrow hown (fun e => ?_)
  have := (hnil.1 e).1
  simp [Act.eval] at this

set_option maxHeartbeats 1000000 in
theorem clone49_any (g n c : Nat) (h : Nat → Value) (hn : n ≤ 65536) (w : World) (hf : Flat w g (n * 2) h) (h1 : Hid (∀ x, (h x).oneCell' = true)) :
    Calls Try.prog 49 #[.slice (some ⟨g, 0, none⟩) n c] w (Cloned 2 n h w) := by
  have HF : Hid (Flat w g (n * 2) h) := hf
  clear hf
  have heq := fun w => Lib.run_eql_slice_nil (P := Try.prog) (w := w)
  obtain ⟨i0, hi, hz0, hz1, hz2⟩ := info_parts Try.info89
  go_enter Try.func49, Try.ntmps49
  go_wp2_with (at_builtin; refine wpList_append_own _ rfl (.tmp 5) (.tmp 6) 75 rfl w.heap.size 89 i0 _ 2 8 Try.underlying75 hi hz0 hz1 hz2 rfl (by decide) _ 0 [] rfl (World.ownsRow_lit w #[] 0 (Nat.le_refl _) (by simp [maxLen]) rfl) ⟨g, 0, none⟩ n c ((List.range (n * 2)).map h) rfl (by simp) (news_of HF.out _) (one_of h1.out _) (by unfold maxLen; omega) (by omega) (by simp) ?_; intro v' w1 hown hgrow hnil)
  go_ret
  refine cloned_of ((Below.refl _ _).alloc (Nat.le_refl _) (.cells #[] 89)) (by simp) hgrow hown (fun e => ?_)
  have := (hnil.1 e).1
  simp [Act.eval] at this

end Go.Proofs.Qxb6606019a
