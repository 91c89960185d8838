import Derived.Test.Qxb6608862aDoorRows
import Derived.Test.Qxb6608862aDoorWalk1
import Derived.ProofKit
import Derived.LaidMore
import Derived.OpenShut
import Derived.Stop.Joined
import Derived.Lib.LaidTab
namespace Go.Proofs.Qxb6608862aDoor
open Go.ChangeShapes Go.WideShapes Go.ChangeAt Go.RowKit

theorem own : ownKnob Tryd.prog.godebug = none := by kernel_rfl
theorem laidOut : laidOutB Tryd.prog = true := by kernel_rfl

/-- The kinds' names, as the row lists them. -/
def names : List (List UInt8) := [[105, 110, 118, 97, 108, 105, 100], [66, 79, 79, 76, 69, 65, 78], [78, 85, 76, 76], [73, 78, 84, 69, 71, 69, 82], [69, 78, 85, 77, 69, 82, 65, 84, 69, 68], [66, 73, 84, 32, 83, 84, 82, 73, 78, 71], [79, 67, 84, 69, 84, 32, 83, 84, 82, 73, 78, 71], [99, 104, 97, 114, 97, 99, 116, 101, 114, 32, 115, 116, 114, 105, 110, 103], [79, 66, 74, 69, 67, 84, 32, 73, 68, 69, 78, 84, 73, 70, 73, 69, 82], [83, 69, 81, 85, 69, 78, 67, 69], [83, 69, 81, 85, 69, 78, 67, 69, 32, 79, 70], [67, 72, 79, 73, 67, 69], [111, 112, 101, 110, 32, 116, 121, 112, 101]]
theorem names_laid : (Rows.laid_example_com_batonpass_batonpass_pkg_asn1_kindNames : DataW Unit) = .agg (names.map fun s => .lit (.string s)) := rfl
theorem pow_laid : (Rows.laid_internal_strconv_uint64pow10 : DataW Unit) = Lib.tabData .u64 Lib.pow10Tab := by kernel_rfl
def kn (k : Nat) : ByteArray := ⟨(names.getD k []).toArray⟩
theorem kn_size : ∀ k, k < 13 → (kn k).size ≤ 100 := by decide

/-- The variables that the rows list. -/
def listed : List (String × DataW Unit) := Rows.fnStepInjectiveByKeyWidthRow.laid

theorem pow_global : Tryd.prog.globalNamed powName = some 1 := by kernel_rfl
theorem pow_type : (Tryd.prog.globals[1]?).map (·.type) = some 53 := by kernel_rfl
theorem kinds_type : (Tryd.prog.globals[0]?).map (·.type) = some 43 := by kernel_rfl
theorem kinds_global : ∀ n ∈ Rows.fnStepInjectiveByKeyWidthSpec.vars, Tryd.prog.globalNamed n = some 0 := fun n hn => by
  obtain rfl := List.mem_singleton.1 hn
  kernel_rfl
theorem cells9 : Tryd.prog.cellsOf 9 = 1 := by kernel_rfl
theorem cells29 : Tryd.prog.cellsOf 29 = 1 := by kernel_rfl
theorem cells53 : Tryd.prog.cellsOf 53 = 20 := by kernel_rfl

/-- A start that meets the rows' condition: what the program's own laying leaves. -/
theorem door_met (os : Os) (args : Array Value) : laidMetH Tryd.prog listed ((World.doorLaid Tryd.prog 400 os).forCall (fun _ _ => 0) ⟨#[], args, []⟩).memory :=
  laidMetH_of_parts3 (fuel := 8) (laidMet_of_run' 8 (by kernel_rfl) (by kernel_rfl)) (by kernel_rfl) (by kernel_rfl)

/-- What the condition gives the walks. -/
theorem of_laid {W : World} (h : laidMetH Tryd.prog listed W) : Tabs W kn := by
  rw [MakeChecks.laidMetH_plain _ _ _ (by kernel_rfl)] at h
  obtain ⟨ps, ⟨g0, t0, cs0, f0, p0, q0, hg0, ht0, hv0, hd0, ⟨g1, t1, cs1, f1, p1, q1, hg1, ht1, hv1, hd1, ⟨g2, t2, cs2, f2, p2, q2, hg2, ht2, hv2, hd2, ⟨g3, t3, cs3, f3, p3, q3, hg3, ht3, hv3, hd3, _, _⟩, _⟩, _⟩, _⟩, _, _⟩ := h
  refine ⟨?_, ?_⟩
  · obtain rfl := Option.some.inj (pow_global.symm.trans hg2)
    obtain rfl := Option.some.inj (pow_type.symm.trans ht2)
    unfold Lib.TabIs
    refine hv2.trans (congrArg some ?_)
    have := Lib.cells_of_tab Tryd.underlying53 Tryd.underlying29 cells29 cells53 (hd2.trans (by rw [pow_laid]))
    rw [← this]
  · intro k hk
    obtain rfl := Option.some.inj ((kinds_global _ (List.mem_singleton.2 rfl)).symm.trans hg3)
    obtain rfl := Option.some.inj (kinds_type.symm.trans ht3)
    obtain ⟨xs, m, rfl, hx, _, hn, hel⟩ := DataW.trod_array Tryd.underlying43 hd3
    have hk1 := hel k hk
    rw [cells9, List.getElem?_eq_getElem (by omega)] at hk1
    obtain ⟨s, e1, e2, _⟩ := DataW.trod_string Tryd.underlying9 hk1
    have hc : cs3[k]? = some (.string s) := by
      have := congrArg (·[0]?) e1
      simpa [List.getElem?_take, List.getElem?_drop] using this
    have hs : s = kn k := by
      have h1 : (DataW.agg (names.map fun s => .lit (.string s)) : DataW Unit) = .agg (xs.map (·.1)) := congrArg Prod.fst hx
      have h2 := DataW.agg.inj h1
      have h3 := congrArg (·[k]?) h2
      have hl : k < names.length := hk
      have h4 : xs[k]? = some (.lit (.string s.data.toList), []) := by rw [List.getElem?_eq_getElem (by omega), e2]
      have h5 : (names.map fun s => (.lit (.string s) : DataW Unit))[k]? = some (.lit (.string (names.getD k []))) := by
        simp [hl]
      rw [h5, List.getElem?_map, h4] at h3
      have h6 : names.getD k [] = s.data.toList := by
        injection h3 with h3; injection h3 with h3; injection h3
      exact bytes_inj (by rw [← h6]; rfl)
    rw [← hs]
    have := World.var?_cell hg3 hv3 k
    rw [this]; exact hc
end Go.Proofs.Qxb6608862aDoor
