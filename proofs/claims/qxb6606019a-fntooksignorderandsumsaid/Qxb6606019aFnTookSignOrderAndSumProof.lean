/- The law FnTookSignOrderAndSum: the walk out of the contracts (Qxb6606019aTook), and the row. -/
import Derived.Test.Qxb6606019aRows
import Derived.WalkKit
import Derived.ProofKit
import Derived.OpenShut
import Derived.ShutString
import Derived.ChangeOld
import Derived.Below
import Derived.Test.Qxb6606019aTook
namespace Go.Proofs.Qxb6606019a.fnTookSignOrderAndSum
open Go.ChangeShapes Go.WideShapes Go.ChangeAt Go.RowKit
open Go.ChangeMaps (open_string shut_string)
set_option linter.unusedVariables false      -- a walk need not use every 'w<i>' (that an integer argument fits its kind)

theorem laidOut : laidOutB Try.prog = true := by kernel_rfl
theorem own : ownKnob Try.prog.godebug = none := by kernel_rfl

theorem bounds {x : Int} (h : (Lit.int .i64 x).wf = true) : -9223372036854775808 ≤ x ∧ x ≤ 9223372036854775807 := by
  simp [Lit.wf, IntKind.min, IntKind.max, IntKind.signed, IntKind.bits] at h
  exact h

theorem sat_pos (D : Int) : 0 < sat D ↔ 0 < D := by unfold sat; split <;> (try split) <;> omega
theorem sat_neg (D : Int) : sat D < 0 ↔ D < 0 := by unfold sat; split <;> (try split) <;> omega
theorem sat_mono (D E : Int) (h : D ≤ E) : sat D ≤ sat E := by unfold sat; split <;> (try split) <;> (try split) <;> (try split) <;> omega
theorem sat_in (D : Int) (h : -9223372036854775808 ≤ D) (k : D ≤ 9223372036854775807) : sat D = D := by unfold sat; rw [if_neg (by omega), if_neg (by omega)]

def inSpan (x : Int) : Bool := decide (-2305843009213693952 ≤ x ∧ x ≤ 2305843009213693952)
theorem sum_law (a0 a1 a2 : Int) (h0 : inSpan a0 = true) (h1 : inSpan a1 = true) (h2 : inSpan a2 = true) : (wrap64 (sat (a1 - a0) + sat (a2 - a1)) != sat (a2 - a0)) = false := by
  unfold inSpan at h0 h1 h2
  rw [decide_eq_true_iff] at h0 h1 h2
  rw [sat_in _ (by omega) (by omega), sat_in _ (by omega) (by omega), sat_in _ (by omega) (by omega)]
  unfold wrap64
  rw [bne_eq_false_iff_eq]
  omega

/-- What stands behind the three calls of Took, its tests decided ahead. -/
theorem core (a0 a1 a2 A B C : Int) (A0 : -9223372036854775808 ≤ A) (A1 : A ≤ 9223372036854775807) (C0 : -9223372036854775808 ≤ C) (C1 : C ≤ 9223372036854775807)
    (hA : Hid (sat (a1 - a0) = A)) (hB : Hid (sat (a2 - a0) = B)) (hC : Hid (sat (a2 - a1) = C)) (b0 : -9223372036854775808 ≤ a0 ∧ a0 ≤ 9223372036854775807) (b1 : -9223372036854775808 ≤ a1 ∧ a1 ≤ 9223372036854775807) (b2 : -9223372036854775808 ≤ a2 ∧ a2 ≤ 9223372036854775807)
    (x y : Bool) (t1 : decide (0 < A) = x) (t1' : decide (a0 < a1) = x) (t2 : decide (A < 0) = y) (t2' : decide (a1 < a0) = y)
    (t3 : a1 ≤ a2 → A ≤ B) (t4 : a2 < a1 → B ≤ A)
    (t5 : Hid (inSpan a0 = true → inSpan a1 = true → inSpan a2 = true → (wrap64 (A + C) != B) = false)) (w : World) :
    Calls Try.prog 4 #[.int .i64 a0, .int .i64 a1, .int .i64 a2] w fun e w' => e = .returned (.bool true) ∧ Below w.heap.size w w' := by
  obtain ⟨y0, e0⟩ : ∃ y, Hid (y = inSpan a0) := ⟨_, rfl⟩
  obtain ⟨y1, e1⟩ : ∃ y, Hid (y = inSpan a1) := ⟨_, rfl⟩
  obtain ⟨y2, e2⟩ : ∃ y, Hid (y = inSpan a2) := ⟨_, rfl⟩
  have T5 : Hid (y0 = true → y1 = true → y2 = true → (wrap64 (A + C) != B) = false) := by
    show _ → _
    rw [e0.out, e1.out, e2.out]
    exact t5.out
  clear t5
  by_cases ho : a1 ≤ a2
  all_goals
    first
      | (have t6 := t3 ho; have t7 : decide (B < A) = false := decide_eq_false (by omega); have t8 : True := trivial; clear t3 t4)
      | (have t6 := t4 (by omega); have t7 : decide (A < B) = false := decide_eq_false (by omega); have t8 : decide (a1 ≤ a2) = false := decide_eq_false ho; clear t3 t4)
    go_enter Try.func4, Try.ntmps4
    go_wp2_with fail
    refine (newTest_any a0 a1 b0.1 b0.2 b1.1 b1.2 _).mono ?_
    rintro e w1 ⟨p, rfl, hb1, c2, c3, c4, c5, c6, c7⟩
    go_wp2_with fail
    refine (took_new p a0 a1 b0.1 b0.2 b1.1 b1.2 _ c2 c3 c4 c5 c6 c7).mono ?_
    clear c2 c3 c4 c5 c6 c7
    rintro e w2 ⟨rfl, hb2⟩
    rw [hA.out]
    go_wp2_with fail
    refine (newTest_any a0 a2 b0.1 b0.2 b2.1 b2.2 _).mono ?_
    rintro e w3 ⟨p, rfl, hb3, c2, c3, c4, c5, c6, c7⟩
    go_wp2_with fail
    refine (took_new p a0 a2 b0.1 b0.2 b2.1 b2.2 _ c2 c3 c4 c5 c6 c7).mono ?_
    clear c2 c3 c4 c5 c6 c7
    rintro e w4 ⟨rfl, hb4⟩
    rw [hB.out]
    go_wp2_with fail
    refine (newTest_any a1 a2 b1.1 b1.2 b2.1 b2.2 _).mono ?_
    rintro e w5 ⟨p, rfl, hb5, c2, c3, c4, c5, c6, c7⟩
    go_wp2_with fail
    refine (took_new p a1 a2 b1.1 b1.2 b2.1 b2.2 _ c2 c3 c4 c5 c6 c7).mono ?_
    clear c2 c3 c4 c5 c6 c7
    rintro e w6 ⟨rfl, hb6⟩
    rw [hC.out]
    have s1 := hb1.size
    have s2 := hb2.size
    have s3 := hb3.size
    have s4 := hb4.size
    have s5 := hb5.size
    have HB : Below w.heap.size w w6 := ((((hb1.trans (hb2.mono (by omega))).trans (hb3.mono (by omega))).trans (hb4.mono (by omega))).trans (hb5.mono (by omega))).trans (hb6.mono (by omega))
    clear hb1 hb2 hb3 hb4 hb5 hb6 s1 s2 s3 s4 s5
    go_wp2_with fail
    refine (span_any a0 y0 e0.out _).mono ?_
    rintro e w' ⟨rfl, rfl⟩
    cases y0
    · go_wp2_with fail
      go_ret
      exact ⟨rfl, HB⟩
    go_wp2_with fail
    refine (span_any a1 y1 e1.out _).mono ?_
    rintro e w' ⟨rfl, rfl⟩
    cases y1
    · go_wp2_with fail
      go_ret
      exact ⟨rfl, HB⟩
    go_wp2_with fail
    refine (span_any a2 y2 e2.out _).mono ?_
    rintro e w' ⟨rfl, rfl⟩
    cases y2
    · go_wp2_with fail
      go_ret
      exact ⟨rfl, HB⟩
    have t9 : (wrap64 (A + C) != B) = false := T5.out (by trivial) (by trivial) (by trivial)
    go_wp2_with fail
    go_ret
    exact ⟨rfl, HB⟩

theorem walk (a0 : Int) (a1 : Int) (a2 : Int) (w0 : (Lit.int .i64 a0).wf = true) (w1 : (Lit.int .i64 a1).wf = true) (w2 : (Lit.int .i64 a2).wf = true) (w : World) :
    Calls Try.prog 4 #[.int .i64 a0, .int .i64 a1, .int .i64 a2] w fun e w' => e = .returned (.bool true) ∧ Below w.heap.size w w' := by
  have wA := sat_wf (a1 - a0)
  have wC := sat_wf (a2 - a1)
  refine core a0 a1 a2 (sat (a1 - a0)) (sat (a2 - a0)) (sat (a2 - a1)) wA.1 wA.2 wC.1 wC.2 rfl rfl rfl (bounds w0) (bounds w1) (bounds w2) _ _ ?_ rfl ?_ rfl ?_ ?_ ?_ w
  · rw [decide_eq_decide, sat_pos]; omega
  · rw [decide_eq_decide, sat_neg]; omega
  · intro h; exact sat_mono _ _ (by omega)
  · intro h; exact sat_mono _ _ (by omega)
  · exact fun h0 h1 h2 => sum_law a0 a1 a2 h0 h1 h2

/-! ### THE ROW's STEP: WRITTEN OUT: LEAVE IT -/
set_option maxRecDepth 100000 in
theorem lifted (os : Os) (started : os.Started) (H : Type) (enc : TypeId × Value → H) :
    ReturnsInHanded {} Try.checked os 4 .any (Rows.fnTookSignOrderAndSumSpec.pre6 enc Try.prog Try.f4 Rows.fnTookSignOrderAndSumRow.domain false) (Rows.fnTookSignOrderAndSumSpec.post enc Try.prog Try.f4 false true false false) := by
  refine returnsInHanded_of_change (C := Try.checked) own started (by kernel_rfl) Try.func4
    (ChangeSpec.witness6 (enc := enc) (C := Try.checked) false ⟨#[], #[.int .i64 0, .int .i64 0, .int .i64 0], []⟩ 8 (by kernel_rfl) (by kernel_rfl) (by kernel_rfl) (by kernel_rfl)) ?_
  intro W base args ds gs before hval0 hW hcnd _
  have hval : ∀ (j : Nat) t v, Try.f4.params[j]? = some t → args[j]? = some v → Value.okWide Try.prog W .any base t v := hval0
  have hW' := hW
  obtain ⟨p, q, hA0, hV, rfl, hfz, hnd⟩ := hW
  have hA : DataW.TrodAll enc Try.prog W 0 (fun _ => true) true Try.f4.params.toList args.toList ds p := hA0
  rw [Try.params4] at hA hval
  obtain ⟨v0, vs0, d0, ds0, p0, q0, hargs, rfl, rfl, h0, r0⟩ := trodAll_cons hA
  obtain ⟨v1, vs1, d1, ds1, p1, q1, rfl, rfl, rfl, h1, r1⟩ := trodAll_cons r0
  obtain ⟨v2, vs2, d2, ds2, p2, q2, rfl, rfl, rfl, h2, r2⟩ := trodAll_cons r1
  obtain ⟨rfl, rfl, rfl⟩ := trodAll_nil r2
  obtain rfl : args = #[v0, v1, v2] := by cases args; simp_all
  obtain ⟨rfl, rfl⟩ := trodVars_none hV
  obtain ⟨a0, rfl, rfl, rfl, w0⟩ := open_int Try.underlying2 (hval 0 2 v0 rfl rfl) h0
  obtain ⟨a1, rfl, rfl, rfl, w1⟩ := open_int Try.underlying2 (hval 1 2 v1 rfl rfl) h1
  obtain ⟨a2, rfl, rfl, rfl, w2⟩ := open_int Try.underlying2 (hval 2 2 v2 rfl rfl) h2
  clear hA0 hval0
  refine (walk a0 a1 a2 w0 w1 w2 W).mono fun e W' ⟨he, bel⟩ => ?_
  subst he
  exact ⟨_, rfl, _, _, _, [], _, [], hW', trodAll_mk1 (shut_bool Try.underlying4 _), (trodAll_cons_mk (shut_int Try.underlying2 w0) (trodAll_cons_mk (shut_int Try.underlying2 w1) (trodAll_cons_mk (shut_int Try.underlying2 w2) trodAll_mk0))), rfl, bel.frame _, fun h => by cases h⟩

theorem over : Rows.fnTookSignOrderAndSumRow.holds Try.pinned (OpenSpec.ofChange Rows.fnTookSignOrderAndSumSpec) :=
  OpenClaim.holds_of_wide 4 Try.f4 rfl rfl rfl rfl rfl rfl rfl ⟨rfl, rfl, rfl, rfl, rfl⟩ rfl rfl rfl rfl rfl (by kernel_rfl) Try.func4 (by kernel_rfl)
    (of_decide_eq_true (by kernel_rfl)) (by unfold Func.isWrapper; first | (rw [if_pos (by decide +kernel)]; kernel_rfl) | (rw [if_neg (by decide +kernel)]; exact ⟨rfl, rfl⟩))
    (fun os started H enc _ => lifted os started H enc)

theorem proved : Rows.FnTookSignOrderAndSumSaid :=
  over
#print axioms proved
end Go.Proofs.Qxb6606019a.fnTookSignOrderAndSum
