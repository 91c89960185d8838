import Derived.Test.Qxb6606019aReads
namespace Go.Proofs.Qxb6606019a
open Go.RowKit

def AnyBool (w : World) (e : Ending) (w' : World) : Prop := ∃ y : Bool, e = .returned (.bool y) ∧ w = w'

set_option maxHeartbeats 2000000 in
theorem bytes17_any (a0 a1 a2 a3 a4 a5 a6 : Option Addr) (c0 c1 c2 c3 c4 c5 c6 n0 n1 n2 n3 n4 n5 n6 : Nat) (x y z : Int) (w : World) :
    Calls Try.prog 17 #[.slice a0 n0 c0, .slice a1 n1 c1, .slice a2 n2 c2, .slice a3 n3 c3, .slice a4 n4 c4, .slice a5 n5 c5, .slice a6 n6 c6, .int .i64 x, .int .i64 y, .int .i64 z] w (AnyBool w) := by
  go_enter Try.func17, Try.ntmps17
  go_wp2
  all_goals (go_ret; exact ⟨_, rfl, rfl⟩)

set_option maxHeartbeats 2000000 in
theorem bytes27_any (a0 a1 a2 a3 a4 a5 a6 : Option Addr) (c0 c1 c2 c3 c4 c5 c6 n0 n1 n2 n3 n4 n5 n6 : Nat) (x y z : Int) (w : World) :
    Calls Try.prog 27 #[.slice a0 n0 c0, .slice a1 n1 c1, .slice a2 n2 c2, .slice a3 n3 c3, .slice a4 n4 c4, .slice a5 n5 c5, .slice a6 n6 c6, .int .i64 x, .int .i64 y, .int .i64 z] w (AnyBool w) := by
  go_enter Try.func27, Try.ntmps27
  go_wp2
  all_goals (go_ret; exact ⟨_, rfl, rfl⟩)

theorem Ints.go {w w' : World} {a : Option Addr} {k : IntKind} {n : Nat} {f : Nat → Int} (h : Ints w.heap.size w a k n f) (hb : Below w.heap.size w w') : Ints w'.heap.size w' a k n f := (h.below hb).mono hb.size
theorem Prs.go {w w' : World} {a : Option Addr} {n : Nat} {f g : Nat → Int} (h : Prs w.heap.size w a n f g) (hb : Below w.heap.size w w') : Prs w'.heap.size w' a n f g := (h.below hb).mono hb.size
theorem later {a b c : World} (h : Below a.heap.size a b) (k : Below b.heap.size b c) : Below a.heap.size a c := h.trans (k.mono h.size)
theorem FP.kept {S : Nat → Prop} {w w' : World} {g1 g2 g3 p c1 c2 c3 n m l : Nat} {f0 f1 f2 f3 f4 f5 f6 f7 : Nat → Int} {x y z : Int} (F : FP w g1 g2 g3 p c1 c2 c3 n m l f0 f1 f2 f3 f4 f5 f6 f7 x y z) (k : Kept S w w')
    (h1 : ¬ S g1) (h2 : ¬ S g2) (h3 : ¬ S g3) (hp : ¬ S p) : FP w' g1 g2 g3 p c1 c2 c3 n m l f0 f1 f2 f3 f4 f5 f6 f7 x y z :=
  { b1 := k.blk F.b1 h1, b2 := k.blk F.b2 h2, b3 := k.blk F.b3 h3, bp := k.blk F.bp hp, e1 := F.e1.kept k h1, e2 := F.e2.kept k h2, e3 := F.e3.kept k h3,
    p0 := k.cell F.p0 hp, p1 := k.cell F.p1 hp, p2 := k.cell F.p2 hp, p3 := k.cell F.p3 hp, p4 := k.cell F.p4 hp, p5 := k.cell F.p5 hp }

/-- The seven copies, at a world. -/
structure Seven (B : Nat) (w : World) (a0 a1 a2 a3 a4 a5 a6 : Option Addr) (n m l : Nat) (f0 f1 f2 f3 f4 f5 f6 f7 : Nat → Int) : Prop where
  i0 : Ints B w a0 .i64 n f0
  i1 : Ints B w a1 .i32 n f1
  i2 : Ints B w a2 .i8 n f2
  i3 : Ints B w a3 .i64 m f3
  i4 : Ints B w a4 .i64 m f4
  i5 : Ints B w a5 .i64 m f5
  i6 : Prs B w a6 l f6 f7
theorem Seven.below {B : Nat} {w w' : World} {a0 a1 a2 a3 a4 a5 a6 : Option Addr} {n m l : Nat} {f0 f1 f2 f3 f4 f5 f6 f7 : Nat → Int} (h : Seven B w a0 a1 a2 a3 a4 a5 a6 n m l f0 f1 f2 f3 f4 f5 f6 f7) (hb : Below B w w') : Seven B w' a0 a1 a2 a3 a4 a5 a6 n m l f0 f1 f2 f3 f4 f5 f6 f7 :=
  ⟨h.i0.below hb, h.i1.below hb, h.i2.below hb, h.i3.below hb, h.i4.below hb, h.i5.below hb, h.i6.below hb⟩
theorem Seven.mono {B B' : Nat} {w : World} {a0 a1 a2 a3 a4 a5 a6 : Option Addr} {n m l : Nat} {f0 f1 f2 f3 f4 f5 f6 f7 : Nat → Int} (h : Seven B w a0 a1 a2 a3 a4 a5 a6 n m l f0 f1 f2 f3 f4 f5 f6 f7) (hb : B ≤ B') : Seven B' w a0 a1 a2 a3 a4 a5 a6 n m l f0 f1 f2 f3 f4 f5 f6 f7 :=
  ⟨h.i0.mono hb, h.i1.mono hb, h.i2.mono hb, h.i3.mono hb, h.i4.mono hb, h.i5.mono hb, h.i6.mono hb⟩

end Go.Proofs.Qxb6606019a
