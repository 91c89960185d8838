import Derived.Test.Qxb6606019aLaw
namespace Go.Proofs.Qxb6606019a
open Go.RowKit

set_option maxRecDepth 100000 in
set_option maxHeartbeats 4000000 in
theorem law7_main (c64 c32 c8 : Int → Int) (HQ : Hid ((∀ v, bits .xor .i64 (if IntKind.i64.signed = true then -1 else 9223372036854775807) v = c64 v) ∧ (∀ v, bits .xor .i32 (if IntKind.i32.signed = true then -1 else IntKind.i32.max) v = c32 v) ∧ (∀ v, bits .xor .i8 (if IntKind.i8.signed = true then -1 else IntKind.i8.max) v = c8 v)))
    (r64 : Hid (∀ v, -9223372036854775808 ≤ c64 v ∧ c64 v ≤ 9223372036854775807))
    (a0 a1 a2 a3 a4 a5 a6 : Option Addr) (c0 c1 c2 c3 c4 c5 c6 n m l : Nat) (f0 f1 f2 f3 f4 f5 f6 f7 : Nat → Int) (x y z : Int) (w : World)
    (H : Hid (Seven w.heap.size w a0 a1 a2 a3 a4 a5 a6 n m l f0 f1 f2 f3 f4 f5 f6 f7))
    (HN : Hid ((a0 = none → n = 0 ∧ c0 = 0) ∧ (a1 = none → n = 0 ∧ c1 = 0) ∧ (a2 = none → n = 0 ∧ c2 = 0) ∧ (a3 = none → m = 0 ∧ c3 = 0) ∧ (a4 = none → m = 0 ∧ c4 = 0) ∧ (a5 = none → m = 0 ∧ c5 = 0) ∧ (a6 = none → l = 0 ∧ c6 = 0)))
    (r3 : Hid (∀ i, i < m → -9223372036854775808 ≤ f3 i ∧ f3 i ≤ 9223372036854775807)) (hn : n ≤ 65536) (hm : m ≤ 65536) (hl : l ≤ 65536) (hs : (n : Int) * 8 + (n : Int) * 4 + (n : Int) + (m : Int) * 8 + (m : Int) * 8 + (m : Int) * 8 + (l : Int) * 8 ≤ 1048576) :
    Calls Try.prog 7 #[.slice a0 n c0, .slice a1 n c1, .slice a2 n c2, .slice a3 m c3, .slice a4 m c4, .slice a5 m c5, .slice a6 l c6, .int .i64 x, .int .i64 y, .int .i64 z] w fun e w' => e = .returned (.bool true) ∧ Below w.heap.size w w' := by
  go_enter Try.func7, Try.ntmps7
  go_wp2_with fail
  refine (bytes27_any a0 a1 a2 a3 a4 a5 a6 c0 c1 c2 c3 c4 c5 c6 n n n m m m l x y z w).mono ?_
  rintro e w' ⟨yb, rfl, rfl⟩
  cases yb
  · go_wp2_with fail
    go_ret
    exact ⟨rfl, Below.refl _ _⟩
  go_wp2_with fail
  refine (copy18_any a0 n c0 f0 hn w H.out.i0 HN.out.1).mono ?_
  rintro e w1 ⟨b0, e0, rfl, hb1, k0⟩
  have X1 : Hid (Below w.heap.size w w1 ∧ Ints w1.heap.size w1 b0 .i64 n f0) := ⟨hb1, k0⟩
  clear hb1 k0
  go_wp2_with fail
  refine (copy19_any a1 n c1 f1 hn w1 (H.out.i1.go X1.out.1) HN.out.2.1).mono ?_
  rintro e w2 ⟨b1, e1, rfl, hb, k⟩
  have X2 : Hid (Below w.heap.size w w2 ∧ Ints w2.heap.size w2 b0 .i64 n f0 ∧ Ints w2.heap.size w2 b1 .i32 n f1) := ⟨later X1.out.1 hb, X1.out.2.go hb, k⟩
  clear hb k X1
  go_wp2_with fail
  refine (copy20_any a2 n c2 f2 hn w2 (H.out.i2.go X2.out.1) HN.out.2.2.1).mono ?_
  rintro e w3 ⟨b2, e2, rfl, hb, k⟩
  have X3 : Hid (Below w.heap.size w w3 ∧ Ints w3.heap.size w3 b0 .i64 n f0 ∧ Ints w3.heap.size w3 b1 .i32 n f1 ∧ Ints w3.heap.size w3 b2 .i8 n f2) := ⟨later X2.out.1 hb, X2.out.2.1.go hb, X2.out.2.2.go hb, k⟩
  clear hb k X2
  go_wp2_with fail
  refine (copy21_any a3 m c3 f3 hm w3 (H.out.i3.go X3.out.1) HN.out.2.2.2.1).mono ?_
  rintro e w4 ⟨b3, e3, rfl, hb, k⟩
  have X4 : Hid (Below w.heap.size w w4 ∧ Ints w4.heap.size w4 b0 .i64 n f0 ∧ Ints w4.heap.size w4 b1 .i32 n f1 ∧ Ints w4.heap.size w4 b2 .i8 n f2 ∧ Ints w4.heap.size w4 b3 .i64 m f3) := ⟨later X3.out.1 hb, X3.out.2.1.go hb, X3.out.2.2.1.go hb, X3.out.2.2.2.go hb, k⟩
  clear hb k X3
  go_wp2_with fail
  refine (copy18_any a4 m c4 f4 hm w4 (H.out.i4.go X4.out.1) HN.out.2.2.2.2.1).mono ?_
  rintro e w5 ⟨b4, e4, rfl, hb, k⟩
  have X5 : Hid (Below w.heap.size w w5 ∧ Ints w5.heap.size w5 b0 .i64 n f0 ∧ Ints w5.heap.size w5 b1 .i32 n f1 ∧ Ints w5.heap.size w5 b2 .i8 n f2 ∧ Ints w5.heap.size w5 b3 .i64 m f3 ∧ Ints w5.heap.size w5 b4 .i64 m f4) := ⟨later X4.out.1 hb, X4.out.2.1.go hb, X4.out.2.2.1.go hb, X4.out.2.2.2.1.go hb, X4.out.2.2.2.2.go hb, k⟩
  clear hb k X4
  go_wp2_with fail
  refine (copy18_any a5 m c5 f5 hm w5 (H.out.i5.go X5.out.1) HN.out.2.2.2.2.2.1).mono ?_
  rintro e w6 ⟨b5, e5, rfl, hb, k⟩
  have X6 : Hid (Below w.heap.size w w6 ∧ Ints w6.heap.size w6 b0 .i64 n f0 ∧ Ints w6.heap.size w6 b1 .i32 n f1 ∧ Ints w6.heap.size w6 b2 .i8 n f2 ∧ Ints w6.heap.size w6 b3 .i64 m f3 ∧ Ints w6.heap.size w6 b4 .i64 m f4 ∧ Ints w6.heap.size w6 b5 .i64 m f5) := ⟨later X5.out.1 hb, X5.out.2.1.go hb, X5.out.2.2.1.go hb, X5.out.2.2.2.1.go hb, X5.out.2.2.2.2.1.go hb, X5.out.2.2.2.2.2.go hb, k⟩
  clear hb k X5
  go_wp2_with fail
  refine (copy22_any a6 l c6 f6 f7 hl w6 (H.out.i6.go X6.out.1) HN.out.2.2.2.2.2.2).mono ?_
  rintro e w7 ⟨b6, e6, rfl, hb, k⟩
  have X7 : Hid (Below w.heap.size w w7 ∧ Seven w7.heap.size w7 b0 b1 b2 b3 b4 b5 b6 n m l f0 f1 f2 f3 f4 f5 f6 f7) := ⟨later X6.out.1 hb, X6.out.2.1.go hb, X6.out.2.2.1.go hb, X6.out.2.2.2.1.go hb, X6.out.2.2.2.2.1.go hb, X6.out.2.2.2.2.2.1.go hb, X6.out.2.2.2.2.2.2.go hb, k⟩
  clear hb k X6 HN H
  go_wp2_with fail
  refine (new_any b0 b1 b2 b3 b4 b5 b6 e0 e1 e2 e3 e4 e5 e6 n m l f0 f1 f2 f3 f4 f5 f6 f7 x y z hn hm hl w7 X7.out.2.i0 X7.out.2.i1 X7.out.2.i2 X7.out.2.i3 X7.out.2.i4 X7.out.2.i5 X7.out.2.i6 r3).mono ?_
  rintro e w8 ⟨g1, g2, g3, p, d1, d2, d3, rfl, hb, o1, o2, o3, o4, F⟩
  have X8 : Hid (Below w.heap.size w w8 ∧ Seven w7.heap.size w8 b0 b1 b2 b3 b4 b5 b6 n m l f0 f1 f2 f3 f4 f5 f6 f7 ∧ w7.heap.size ≤ w8.heap.size ∧ FP w8 g1 g2 g3 p d1 d2 d3 n m l f0 f1 f2 f3 f4 f5 f6 f7 x y z) := ⟨later X7.out.1 hb, X7.out.2.below hb, hb.size, F⟩
  have HO : Hid (w7.heap.size ≤ g1 ∧ g1 < g2 ∧ g2 < g3 ∧ g3 < p ∧ p < w8.heap.size ∧ w.heap.size ≤ w7.heap.size) := ⟨o1, o2, o3, o4, F.bp.lt, X7.out.1.size⟩
  clear hb o1 o2 o3 o4 F X7
  go_wp2_with fail
  refine (clone24_any g1 g2 g3 p d1 d2 d3 n m l f0 f1 f2 f3 f4 f5 f6 f7 x y z hn hm hl w8 X8.out.2.2.2).mono ?_
  rintro e w9 ⟨G1, G2, G3, P, D1, D2, D3, rfl, hb, o1, o2, o3, o4, F⟩
  have X9 : Hid (Below w.heap.size w w9 ∧ Seven w7.heap.size w9 b0 b1 b2 b3 b4 b5 b6 n m l f0 f1 f2 f3 f4 f5 f6 f7 ∧ w7.heap.size ≤ w9.heap.size ∧ FP w9 g1 g2 g3 p d1 d2 d3 n m l f0 f1 f2 f3 f4 f5 f6 f7 x y z ∧ FP w9 G1 G2 G3 P D1 D2 D3 n m l f0 f1 f2 f3 f4 f5 f6 f7 x y z) :=
    ⟨later X8.out.1 hb, X8.out.2.1.below (hb.mono X8.out.2.2.1), Nat.le_trans X8.out.2.2.1 hb.size, X8.out.2.2.2.below hb, F⟩
  have HO2 : Hid (w8.heap.size ≤ G1 ∧ G1 < G2 ∧ G2 < G3 ∧ G3 < P ∧ P < w9.heap.size) := ⟨o1, o2, o3, o4, F.bp.lt⟩
  clear hb o1 o2 o3 o4 F X8
  go_wp2_with fail
  refine (flip_gen c64 c32 c8 HQ.out.1 HQ.out.2.1 HQ.out.2.2 r64 w7.heap.size g1 g2 g3 p d1 d2 d3 b0 b1 b2 b3 b4 b5 b6 e0 e1 e2 e3 e4 e5 e6 n m l f0 f1 f2 f3 f4 f5 f6 f7 f0 f1 f2 f3 f4 f5 f6 f7 x y z x y z hn hm hl w9 X9.out.2.1.i0 X9.out.2.1.i1 X9.out.2.1.i2 X9.out.2.1.i3 X9.out.2.1.i4 X9.out.2.1.i5 X9.out.2.1.i6 X9.out.2.2.2.1 (by have := HO.out; have := HO2.out; omega) (by have := HO.out; have := HO2.out; omega) (by have := HO.out; have := HO2.out; omega) (by have := HO.out; have := HO2.out; omega)).mono ?_
  rintro e w10 ⟨rfl, hK, F⟩
  have hL : Below w7.heap.size w9 w10 := hK.below X9.out.2.2.1 (by intro k hk; have := HO.out; have := HO2.out; omega)
  have X10 : Hid (Below w.heap.size w w10 ∧ Seven w7.heap.size w10 b0 b1 b2 b3 b4 b5 b6 n m l f0 f1 f2 f3 f4 f5 f6 f7 ∧ w7.heap.size ≤ w10.heap.size ∧ FP w10 g1 g2 g3 p d1 d2 d3 n m l (fun i => c64 (f0 i)) (fun i => c32 (f1 i)) (fun i => c8 (f2 i)) (fun i => c64 (f3 i)) (fun i => c64 (f4 i)) (fun i => c64 (f5 i)) (fun i => c32 (f6 i)) (fun i => c32 (f7 i)) (c64 x) (c64 y) (c64 z) ∧ FP w10 G1 G2 G3 P D1 D2 D3 n m l f0 f1 f2 f3 f4 f5 f6 f7 x y z) :=
    ⟨X9.out.1.trans (hL.mono (by have := HO.out; omega)), X9.out.2.1.below hL, Nat.le_trans X9.out.2.2.1 hL.size, F, X9.out.2.2.2.2.kept hK (by have := HO.out; have := HO2.out; omega) (by have := HO.out; have := HO2.out; omega) (by have := HO.out; have := HO2.out; omega) (by have := HO.out; have := HO2.out; omega)⟩
  clear hK F hL X9
  go_wp2_with fail
  refine (reads_no G1 G2 G3 P D1 D2 D3 b0 b1 b2 b3 b4 b5 b6 e0 e1 e2 e3 e4 e5 e6 n m l f0 f1 f2 f3 f4 f5 f6 f7 x y z hn hm hl w10 (X10.out.2.1.mono X10.out.2.2.1).i0 (X10.out.2.1.mono X10.out.2.2.1).i1 (X10.out.2.1.mono X10.out.2.2.1).i2 (X10.out.2.1.mono X10.out.2.2.1).i3 (X10.out.2.1.mono X10.out.2.2.1).i4 (X10.out.2.1.mono X10.out.2.2.1).i5 (X10.out.2.1.mono X10.out.2.2.1).i6 r3 X10.out.2.2.2.2).mono ?_
  rintro e w11 ⟨rfl, hb⟩
  have X11 : Hid (Below w.heap.size w w11 ∧ Seven w7.heap.size w11 b0 b1 b2 b3 b4 b5 b6 n m l f0 f1 f2 f3 f4 f5 f6 f7 ∧ w7.heap.size ≤ w11.heap.size ∧ FP w11 g1 g2 g3 p d1 d2 d3 n m l (fun i => c64 (f0 i)) (fun i => c32 (f1 i)) (fun i => c8 (f2 i)) (fun i => c64 (f3 i)) (fun i => c64 (f4 i)) (fun i => c64 (f5 i)) (fun i => c32 (f6 i)) (fun i => c32 (f7 i)) (c64 x) (c64 y) (c64 z) ∧ FP w11 G1 G2 G3 P D1 D2 D3 n m l f0 f1 f2 f3 f4 f5 f6 f7 x y z) :=
    ⟨later X10.out.1 hb, X10.out.2.1.below (hb.mono X10.out.2.2.1), Nat.le_trans X10.out.2.2.1 hb.size, X10.out.2.2.2.1.below hb, X10.out.2.2.2.2.below hb⟩
  clear hb X10
  go_wp2_with fail
  refine (reads_yes c64 c32 c8 HQ.out.1 HQ.out.2.1 HQ.out.2.2 r64 g1 g2 g3 p d1 d2 d3 b0 b1 b2 b3 b4 b5 b6 e0 e1 e2 e3 e4 e5 e6 n m l f0 f1 f2 f3 f4 f5 f6 f7 x y z hn hm hl w11 (X11.out.2.1.mono X11.out.2.2.1).i0 (X11.out.2.1.mono X11.out.2.2.1).i1 (X11.out.2.1.mono X11.out.2.2.1).i2 (X11.out.2.1.mono X11.out.2.2.1).i3 (X11.out.2.1.mono X11.out.2.2.1).i4 (X11.out.2.1.mono X11.out.2.2.1).i5 (X11.out.2.1.mono X11.out.2.2.1).i6 X11.out.2.2.2.1).mono ?_
  rintro e w12 ⟨rfl, hb⟩
  have X12 : Hid (Below w.heap.size w w12 ∧ Seven w7.heap.size w12 b0 b1 b2 b3 b4 b5 b6 n m l f0 f1 f2 f3 f4 f5 f6 f7 ∧ w7.heap.size ≤ w12.heap.size ∧ FP w12 g1 g2 g3 p d1 d2 d3 n m l (fun i => c64 (f0 i)) (fun i => c32 (f1 i)) (fun i => c8 (f2 i)) (fun i => c64 (f3 i)) (fun i => c64 (f4 i)) (fun i => c64 (f5 i)) (fun i => c32 (f6 i)) (fun i => c32 (f7 i)) (c64 x) (c64 y) (c64 z) ∧ FP w12 G1 G2 G3 P D1 D2 D3 n m l f0 f1 f2 f3 f4 f5 f6 f7 x y z) :=
    ⟨later X11.out.1 hb, X11.out.2.1.below (hb.mono X11.out.2.2.1), Nat.le_trans X11.out.2.2.1 hb.size, X11.out.2.2.2.1.below hb, X11.out.2.2.2.2.below hb⟩
  clear hb X11
  go_wp2_with fail
  refine (clone24_any g1 g2 g3 p d1 d2 d3 n m l (fun i => c64 (f0 i)) (fun i => c32 (f1 i)) (fun i => c8 (f2 i)) (fun i => c64 (f3 i)) (fun i => c64 (f4 i)) (fun i => c64 (f5 i)) (fun i => c32 (f6 i)) (fun i => c32 (f7 i)) (c64 x) (c64 y) (c64 z) hn hm hl w12 X12.out.2.2.2.1).mono ?_
  rintro e w13 ⟨I1, I2, I3, Q, J1, J2, J3, rfl, hb, _, _, _, _, F⟩
  have X13 : Hid (Below w.heap.size w w13 ∧ Seven w7.heap.size w13 b0 b1 b2 b3 b4 b5 b6 n m l f0 f1 f2 f3 f4 f5 f6 f7 ∧ w7.heap.size ≤ w13.heap.size ∧ FP w13 I1 I2 I3 Q J1 J2 J3 n m l (fun i => c64 (f0 i)) (fun i => c32 (f1 i)) (fun i => c8 (f2 i)) (fun i => c64 (f3 i)) (fun i => c64 (f4 i)) (fun i => c64 (f5 i)) (fun i => c32 (f6 i)) (fun i => c32 (f7 i)) (c64 x) (c64 y) (c64 z)) :=
    ⟨later X12.out.1 hb, X12.out.2.1.below (hb.mono X12.out.2.2.1), Nat.le_trans X12.out.2.2.1 hb.size, F⟩
  clear hb F X12
  go_wp2_with fail
  refine (reads_yes c64 c32 c8 HQ.out.1 HQ.out.2.1 HQ.out.2.2 r64 I1 I2 I3 Q J1 J2 J3 b0 b1 b2 b3 b4 b5 b6 e0 e1 e2 e3 e4 e5 e6 n m l f0 f1 f2 f3 f4 f5 f6 f7 x y z hn hm hl w13 (X13.out.2.1.mono X13.out.2.2.1).i0 (X13.out.2.1.mono X13.out.2.2.1).i1 (X13.out.2.1.mono X13.out.2.2.1).i2 (X13.out.2.1.mono X13.out.2.2.1).i3 (X13.out.2.1.mono X13.out.2.2.1).i4 (X13.out.2.1.mono X13.out.2.2.1).i5 (X13.out.2.1.mono X13.out.2.2.1).i6 X13.out.2.2.2).mono ?_
  rintro e w14 ⟨rfl, hb⟩
  go_wp2_with fail
  go_ret
  exact ⟨rfl, later X13.out.1 hb⟩

end Go.Proofs.Qxb6606019a
