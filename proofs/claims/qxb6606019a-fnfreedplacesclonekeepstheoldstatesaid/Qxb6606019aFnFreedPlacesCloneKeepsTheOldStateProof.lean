/- The law FnFreedPlacesCloneKeepsTheOldState: the row, out of the law's two walks. -/
import Derived.Test.Qxb6606019aRows
import Derived.Test.Qxb6606019aLaw7
import Derived.Test.Qxb6606019aSkip7
import Derived.Test.Qxb6606019aOpen
namespace Go.Proofs.Qxb6606019a.fnFreedPlacesCloneKeepsTheOldState
open Go.ChangeShapes Go.WideShapes Go.ChangeAt Go.RowKit
set_option linter.unusedVariables false

theorem walk (a0 a1 a2 a3 a4 a5 a6 : Option Addr) (c0 c1 c2 c3 c4 c5 c6 n0 n1 n2 n3 n4 n5 n6 : Nat) (x y z : Int) (w : World)
    (w0 : InInts .i64 w a0 n0 c0) (w1 : InInts .i32 w a1 n1 c1) (w2 : InInts .i8 w a2 n2 c2) (w3 : InInts .i64 w a3 n3 c3) (w4 : InInts .i64 w a4 n4 c4) (w5 : InInts .i64 w a5 n5 c5) (w6 : InPrs w a6 n6 c6) :
    Calls Try.prog 7 #[.slice a0 n0 c0, .slice a1 n1 c1, .slice a2 n2 c2, .slice a3 n3 c3, .slice a4 n4 c4, .slice a5 n5 c5, .slice a6 n6 c6, .int .i64 x, .int .i64 y, .int .i64 z] w fun e w' => e = .returned (.bool true) ∧ Below w.heap.size w w' := by
  obtain ⟨f0, i0, k0, _⟩ := w0
  obtain ⟨f1, i1, k1, _⟩ := w1
  obtain ⟨f2, i2, k2, _⟩ := w2
  obtain ⟨f3, i3, k3, b3⟩ := w3
  obtain ⟨f4, i4, k4, _⟩ := w4
  obtain ⟨f5, i5, k5, _⟩ := w5
  obtain ⟨f6, f7, i6, k6⟩ := w6
  by_cases h : n1 = n0 ∧ n2 = n0 ∧ n4 = n3 ∧ n5 = n3 ∧ n0 ≤ 65536 ∧ n3 ≤ 65536 ∧ n6 ≤ 65536 ∧ (n0 : Int) * 8 + (n1 : Int) * 4 + (n2 : Int) + (n3 : Int) * 8 + (n4 : Int) * 8 + (n5 : Int) * 8 + (n6 : Int) * 8 ≤ 1048576
  · obtain ⟨e1, e2, e4, e5, h1, h2, h3, h4⟩ := h
    subst e1
    subst e2
    subst e4
    subst e5
    exact law7_main cpl64 cpl32 cpl8 ⟨fun _ => rfl, fun _ => rfl, fun _ => rfl⟩ (fun v => cpl64_in v) a0 a1 a2 a3 a4 a5 a6 c0 c1 c2 c3 c4 c5 c6 _ _ _ f0 f1 f2 f3 f4 f5 f6 f7 x y z w ⟨i0, i1, i2, i3, i4, i5, i6⟩ ⟨k0, k1, k2, k3, k4, k5, k6⟩ (fun i hi => bounds_i64 (b3 i hi)) h1 h2 h3 h4
  · exact law7_skip a0 a1 a2 a3 a4 a5 a6 c0 c1 c2 c3 c4 c5 c6 n0 n1 n2 n3 n4 n5 n6 x y z w h

set_option maxRecDepth 100000 in
theorem lifted (os : Os) (started : os.Started) (H : Type) (enc : TypeId × Value → H) :
    ReturnsInHanded {} Try.checked os 7 .any (Rows.fnFreedPlacesCloneKeepsTheOldStateSpec.pre6 enc Try.prog Try.f7 Rows.fnFreedPlacesCloneKeepsTheOldStateRow.domain false) (Rows.fnFreedPlacesCloneKeepsTheOldStateSpec.post enc Try.prog Try.f7 false true false false) := by
  refine returnsInHanded_of_change (C := Try.checked) own started (by kernel_rfl) Try.func7
    (ChangeSpec.witness6 (enc := enc) (C := Try.checked) false ⟨#[], #[.slice none 0 0, .slice none 0 0, .slice none 0 0, .slice none 0 0, .slice none 0 0, .slice none 0 0, .slice none 0 0, .int .i64 0, .int .i64 0, .int .i64 0], []⟩ 8 (by kernel_rfl) (by kernel_rfl) (by kernel_rfl) (by kernel_rfl)) ?_
  intro W base args ds gs before hval0 hW hcnd _
  have hval : ∀ (j : Nat) t v, Try.f7.params[j]? = some t → args[j]? = some v → Value.okWide Try.prog W .any base t v := hval0
  have hW' := hW
  obtain ⟨p, q, hA0, hV, rfl, hfz, hnd⟩ := hW
  have hA : DataW.TrodAll enc Try.prog W 0 (fun _ => true) true Try.f7.params.toList args.toList ds p := hA0
  rw [Try.params7] at hA hval
  obtain ⟨v0, vs0, d0, ds0, p0, q0, hargs, rfl, rfl, h0, r0⟩ := trodAll_cons hA
  obtain ⟨v1, vs1, d1, ds1, p1, q1, rfl, rfl, rfl, h1, r1⟩ := trodAll_cons r0
  obtain ⟨v2, vs2, d2, ds2, p2, q2, rfl, rfl, rfl, h2, r2⟩ := trodAll_cons r1
  obtain ⟨v3, vs3, d3, ds3, p3, q3, rfl, rfl, rfl, h3, r3⟩ := trodAll_cons r2
  obtain ⟨v4, vs4, d4, ds4, p4, q4, rfl, rfl, rfl, h4, r4⟩ := trodAll_cons r3
  obtain ⟨v5, vs5, d5, ds5, p5, q5, rfl, rfl, rfl, h5, r5⟩ := trodAll_cons r4
  obtain ⟨v6, vs6, d6, ds6, p6, q6, rfl, rfl, rfl, h6, r6⟩ := trodAll_cons r5
  obtain ⟨v7, vs7, d7, ds7, p7, q7, rfl, rfl, rfl, h7, r7⟩ := trodAll_cons r6
  obtain ⟨v8, vs8, d8, ds8, p8, q8, rfl, rfl, rfl, h8, r8⟩ := trodAll_cons r7
  obtain ⟨v9, vs9, d9, ds9, p9, q9, rfl, rfl, rfl, h9, r9⟩ := trodAll_cons r8
  obtain ⟨rfl, rfl, rfl⟩ := trodAll_nil r9
  obtain rfl : args = #[v0, v1, v2, v3, v4, v5, v6, v7, v8, v9] := by cases args; simp_all
  obtain ⟨rfl, rfl⟩ := trodVars_none hV
  obtain ⟨a0, n0, c0, rfl⟩ := okWide_slice Try.underlying49 (hval 0 49 v0 rfl rfl)
  have lt0 : ∀ x ∈ p0, x.block < W.heap.size := by obtain ⟨m, hm⟩ := h0; exact DataW.trod_lt m _ _ _ hm
  have w0 := in_ints Try.underlying49 Try.underlying3 (by kernel_rfl) h0
  obtain ⟨a1, n1, c1, rfl⟩ := okWide_slice Try.underlying50 (hval 1 50 v1 rfl rfl)
  have lt1 : ∀ x ∈ p1, x.block < W.heap.size := by obtain ⟨m, hm⟩ := h1; exact DataW.trod_lt m _ _ _ hm
  have w1 := in_ints Try.underlying50 Try.underlying21 (by kernel_rfl) h1
  obtain ⟨a2, n2, c2, rfl⟩ := okWide_slice Try.underlying51 (hval 2 51 v2 rfl rfl)
  have lt2 : ∀ x ∈ p2, x.block < W.heap.size := by obtain ⟨m, hm⟩ := h2; exact DataW.trod_lt m _ _ _ hm
  have w2 := in_ints Try.underlying51 Try.underlying82 (by kernel_rfl) h2
  obtain ⟨a3, n3, c3, rfl⟩ := okWide_slice Try.underlying52 (hval 3 52 v3 rfl rfl)
  have lt3 : ∀ x ∈ p3, x.block < W.heap.size := by obtain ⟨m, hm⟩ := h3; exact DataW.trod_lt m _ _ _ hm
  have w3 := in_ints Try.underlying52 Try.underlying2 (by kernel_rfl) h3
  obtain ⟨a4, n4, c4, rfl⟩ := okWide_slice Try.underlying49 (hval 4 49 v4 rfl rfl)
  have lt4 : ∀ x ∈ p4, x.block < W.heap.size := by obtain ⟨m, hm⟩ := h4; exact DataW.trod_lt m _ _ _ hm
  have w4 := in_ints Try.underlying49 Try.underlying3 (by kernel_rfl) h4
  obtain ⟨a5, n5, c5, rfl⟩ := okWide_slice Try.underlying49 (hval 5 49 v5 rfl rfl)
  have lt5 : ∀ x ∈ p5, x.block < W.heap.size := by obtain ⟨m, hm⟩ := h5; exact DataW.trod_lt m _ _ _ hm
  have w5 := in_ints Try.underlying49 Try.underlying3 (by kernel_rfl) h5
  obtain ⟨a6, n6, c6, rfl⟩ := okWide_slice Try.underlying53 (hval 6 53 v6 rfl rfl)
  have lt6 : ∀ x ∈ p6, x.block < W.heap.size := by obtain ⟨m, hm⟩ := h6; exact DataW.trod_lt m _ _ _ hm
  have w6 := in_prs h6
  obtain ⟨x, rfl, rfl, rfl, w7⟩ := open_int Try.underlying3 (hval 7 3 v7 rfl rfl) h7
  obtain ⟨y, rfl, rfl, rfl, w8⟩ := open_int Try.underlying3 (hval 8 3 v8 rfl rfl) h8
  obtain ⟨z, rfl, rfl, rfl, w9⟩ := open_int Try.underlying3 (hval 9 3 v9 rfl rfl) h9
  clear hA0 hval0
  refine (walk a0 a1 a2 a3 a4 a5 a6 c0 c1 c2 c3 c4 c5 c6 n0 n1 n2 n3 n4 n5 n6 x y z W w0 w1 w2 w3 w4 w5 w6).mono fun e W' ⟨he, bel⟩ => ?_
  subst he
  exact ⟨_, rfl, _, _, _, [], _, [], hW', trodAll_mk1 (shut_bool Try.underlying4 _), (trodAll_cons_mk (Below.trod laidOut (by kernel_rfl) (of_decide_eq_true (by kernel_rfl)) h0 bel lt0) (trodAll_cons_mk (Below.trod laidOut (by kernel_rfl) (of_decide_eq_true (by kernel_rfl)) h1 bel lt1) (trodAll_cons_mk (Below.trod laidOut (by kernel_rfl) (of_decide_eq_true (by kernel_rfl)) h2 bel lt2) (trodAll_cons_mk (Below.trod laidOut (by kernel_rfl) (of_decide_eq_true (by kernel_rfl)) h3 bel lt3) (trodAll_cons_mk (Below.trod laidOut (by kernel_rfl) (of_decide_eq_true (by kernel_rfl)) h4 bel lt4) (trodAll_cons_mk (Below.trod laidOut (by kernel_rfl) (of_decide_eq_true (by kernel_rfl)) h5 bel lt5) (trodAll_cons_mk (Below.trod laidOut (by kernel_rfl) (of_decide_eq_true (by kernel_rfl)) h6 bel lt6) (trodAll_cons_mk (shut_int Try.underlying3 w7) (trodAll_cons_mk (shut_int Try.underlying3 w8) (trodAll_cons_mk (shut_int Try.underlying3 w9) trodAll_mk0)))))))))), rfl, bel.frame _, fun h => by cases h⟩

theorem over : Rows.fnFreedPlacesCloneKeepsTheOldStateRow.holds Try.pinned (OpenSpec.ofChange Rows.fnFreedPlacesCloneKeepsTheOldStateSpec) :=
  OpenClaim.holds_of_wide 7 Try.f7 rfl rfl rfl rfl rfl rfl rfl ⟨rfl, rfl, rfl, rfl, rfl⟩ rfl rfl rfl rfl rfl (by kernel_rfl) Try.func7 (by kernel_rfl)
    (of_decide_eq_true (by kernel_rfl)) (by unfold Func.isWrapper; first | (rw [if_pos (by decide +kernel)]; kernel_rfl) | (rw [if_neg (by decide +kernel)]; exact ⟨rfl, rfl⟩))
    (fun os started H enc _ => lifted os started H enc)

theorem proved : Rows.FnFreedPlacesCloneKeepsTheOldStateSaid :=
  over
#print axioms proved
end Go.Proofs.Qxb6606019a.fnFreedPlacesCloneKeepsTheOldState
