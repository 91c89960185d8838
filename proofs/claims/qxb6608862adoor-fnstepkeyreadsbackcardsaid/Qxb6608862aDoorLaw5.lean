import Derived.Test.Qxb6608862aDoorWidth
namespace Go.Proofs.Qxb6608862aDoor
open Go.RowKit

def Yes (w : World) (e : Ending) (w' : World) : Prop := e = .returned (.bool true) ∧ Below w.heap.size w w'

/-- The table at p, the type at q, and the variables, in a world grown out of w. -/
structure Set2 (kn : Nat → ByteArray) (p q : Nat) (tkey : ByteArray) (kind : Int) (name : ByteArray) (w W : World) : Prop where
  bel : Below w.heap.size w W
  tabs : Tabs W kn
  c0 : W.cell? ⟨q, 0, none⟩ = some (.int .i64 kind)
  c1 : W.cell? ⟨q, 1, none⟩ = some (.string name)
  c2 : W.cell? ⟨p, 2, none⟩ = some (.string tkey)
theorem Set2.go {kn : Nat → ByteArray} {p q : Nat} {tkey : ByteArray} {kind : Int} {name : ByteArray} {w W W' : World} (h : Set2 kn p q tkey kind name w W) (hb : Below W.heap.size W W') : Set2 kn p q tkey kind name w W' :=
  ⟨later h.bel hb, h.tabs.later hb, cell_later h.c0 hb, cell_later h.c1 hb, cell_later h.c2 hb⟩
theorem Set2.mk0 {kn : Nat → ByteArray} {w : World} (T : Tabs w kn) {tkey : ByteArray} {kind : Int} {name : ByteArray} (c d : Array Value) (t t' : TypeId) (h2 : c[2]? = some (.string tkey)) (h0 : d[0]? = some (.int .i64 kind)) (h1 : d[1]? = some (.string name)) :
    Set2 kn w.heap.size (w.heap.size + 1) tkey kind name w ((w.alloc (.cells c t)).alloc (.cells d t')) := by
  have bel : Below w.heap.size w ((w.alloc (.cells c t)).alloc (.cells d t')) := by go_grown
  refine ⟨bel, T.later bel, ?_, ?_, ?_⟩
  · rw [World.cell?_alloc_at _ _ _ _ (by simp)]; exact h0
  · rw [World.cell?_alloc_at _ _ _ _ (by simp)]; exact h1
  · have e : (w.alloc (.cells c t)).cell? ⟨w.heap.size, 2, none⟩ = some (.string tkey) := by
      rw [World.cell?_alloc_at _ _ _ _ rfl]; exact h2
    exact cell_later e (by go_grown)

set_option maxRecDepth 100000 in
set_option maxHeartbeats 2000000 in
theorem law5_main (kn : Nat → ByteArray) (field tkey keyField : ByteArray) (k1 k2 kind : Int) (name : ByteArray) (o1 o2 ts : ByteArray) (w : World) (T : Hid (Tabs w kn))
    (e1 : Hid (o1 = stepStr tkey k1 ts ∧ o2 = stepStr tkey k2 ts ∧ ts = typStr kn kind name))
    (B : Hid ((-9223372036854775808 ≤ k1 ∧ k1 ≤ 9223372036854775807) ∧ (-9223372036854775808 ≤ k2 ∧ k2 ≤ 9223372036854775807) ∧ (-9223372036854775808 ≤ kind ∧ kind ≤ 9223372036854775807)))
    (hf : field.size ≤ 262144) (ht : tkey.size ≤ 262144) (hk : keyField.size ≤ 262144) (hn : name.size ≤ 262144) (hts : ts.size ≤ 262144)
    (q1 : (!(o1.toList == o2.toList) == (k1 == k2)) = false) (a1 a2 : Nat) (z1 : o1.size = a1 + (ts.size + 3)) (z2 : o2.size = a2 + (ts.size + 3)) (y1 : tkey.size + wid k1 + 2 = a1) (y2 : tkey.size + wid k2 + 2 = a2) (w1 : 1 ≤ wid k1) (w1' : wid k1 ≤ 25) (w2 : 1 ≤ wid k2) (w2' : wid k2 ≤ 25)
    (q2 : (!((o1.extract 0 (2 + tkey.size)).toList == (o2.extract 0 (2 + tkey.size)).toList)) = false) (q3 : Hid (((o1.extract a1 (a1 + (ts.size + 3))).toList == (o2.extract a2 (a2 + (ts.size + 3))).toList) = true)) :
    Calls Tryd.prog 5 #[.string field, .string tkey, .string keyField, .int .i64 k1, .int .i64 k2, .int .i64 kind, .string name] w (Yes w) := by
  go_enter Tryd.func5, Tryd.ntmps5
  go_wp2_with fail
  refine (bytes10_any field tkey keyField k1 k2 kind name w).mono ?_
  rintro e w0 ⟨y, rfl, rfl⟩
  cases y
  · go_wp2_with fail
    go_ret
    exact ⟨rfl, Below.refl _ _⟩
  go_wp2_with fail
  obtain ⟨W, HW⟩ : ∃ W, Hid (Set2 kn w.heap.size (w.heap.size + 1) tkey kind name w W) ∧ ((w.alloc (Obj.cells #[Value.pointer none, Value.string field, Value.string tkey, Value.string keyField, Value.map none] 26)).alloc (Obj.cells
        #[Value.int IntKind.i64 kind, Value.string name, Value.int IntKind.i64 0, Value.int IntKind.u64 0,
          Value.bool false, Value.bool false, Value.bool false, Value.int IntKind.i64 0, Value.int IntKind.u64 0,
          Value.bool false, Value.bool false, Value.bool false, Value.bool false, Value.slice none 0 0,
          Value.slice none 0 0, Value.slice none 0 0, Value.slice none 0 0, Value.pointer none, Value.pointer none,
          Value.string { data := #[] }, Value.pointer none]
        35)) = W := ⟨_, Set2.mk0 T.out _ _ _ _ rfl rfl rfl, rfl⟩
  rw [HW.2]
  obtain ⟨S0, -⟩ := HW
  refine (step_any kn w.heap.size (w.heap.size + 1) tkey k1 kind name ts e1.out.2.2 B.out.2.2.1 B.out.2.2.2 B.out.1.1 B.out.1.2 (by omega) (by omega) W S0.out.tabs S0.out.c0 S0.out.c1 S0.out.c2).mono ?_
  rintro e W1 ⟨rfl, hb⟩
  have S1 : Hid (Set2 kn w.heap.size (w.heap.size + 1) tkey kind name w W1) := S0.out.go hb
  clear S0 hb
  rw [← e1.out.1]
  go_wp2_with fail
  refine (step_any kn w.heap.size (w.heap.size + 1) tkey k2 kind name ts e1.out.2.2 B.out.2.2.1 B.out.2.2.2 B.out.2.1.1 B.out.2.1.2 (by omega) (by omega) W1 S1.out.tabs S1.out.c0 S1.out.c1 S1.out.c2).mono ?_
  rintro e W2 ⟨rfl, hb⟩
  have S2 : Hid (Set2 kn w.heap.size (w.heap.size + 1) tkey kind name w W2) := S1.out.go hb
  clear S1 hb
  rw [← e1.out.2.1]
  go_wp2_with fail
  refine (width_any k1 B.out.1.1 B.out.1.2 W2).mono ?_
  rintro e w' ⟨rfl, rfl⟩
  go_wp2_with fail
  refine (width_any k2 B.out.2.1.1 B.out.2.1.2 W2).mono ?_
  rintro e w' ⟨rfl, rfl⟩
  go_wp2_with fail
  refine (typStr_any kn (w.heap.size + 1) kind name B.out.2.2.1 B.out.2.2.2 W2 S2.out.tabs S2.out.c0 S2.out.c1).mono ?_
  rintro e W3 ⟨rfl, hb⟩
  have S3 : Hid (Set2 kn w.heap.size (w.heap.size + 1) tkey kind name w W3) := S2.out.go hb
  clear S2 hb
  rw [← e1.out.2.2]
  go_wp2_with fail
  have hp1 : (2 : Int) + tkey.size ≤ a1 + (ts.size + 3) := by omega
  have hp2 : (2 : Int) + tkey.size ≤ a2 + (ts.size + 3) := by omega
  have hp0 : (0 : Int) ≤ 2 + tkey.size := by omega
  go_quiet (fail)
  go_wp2_with fail
  have hr1 : (a1 : Int) ≤ a1 + (ts.size + 3) := by omega
  have hr2 : (a2 : Int) ≤ a2 + (ts.size + 3) := by omega
  go_quiet (fail)
  go_wp2_with fail
  go_ret
  exact ⟨congrArg (fun b => Ending.returned (.bool b)) q3.out, below_draws (below_draws S3.out.bel _) _⟩
end Go.Proofs.Qxb6608862aDoor
