import Derived.Test.Qxb6608862aDoorShelf
import Derived.WalkKit
import Derived.Handy
import Derived.Deep.QuietTactic
import Derived.BigQuiet
import Derived.Deep.RegionWith
import Derived.Deep.RegionHeld3
import Derived.WalkSpells
import Derived.Lib.ItoaLen
namespace Go.Proofs.Qxb6608862aDoor
open Go.RowKit

theorem lt_of_cell {w : World} {b o : Nat} {v : Value} (hc : w.cell? ⟨b, o, none⟩ = some v) : b < w.heap.size := by
  rcases Nat.lt_or_ge b w.heap.size with h | h
  · exact h
  · simp [World.cell?, h] at hc
theorem later {a b c : World} (h : Below a.heap.size a b) (k : Below b.heap.size b c) : Below a.heap.size a c := h.trans (k.mono h.size)
theorem cell_later {w w' : World} {b o : Nat} {v : Value} (h : w.cell? ⟨b, o, none⟩ = some v) (hb : Below w.heap.size w w') : w'.cell? ⟨b, o, none⟩ = some v :=
  (hb.cell (p := ⟨b, o, none⟩) (lt_of_cell h)).trans h
theorem below_draws {B : Nat} {a w : World} (h : Below B a w) (n : Nat) : Below B a (w.drewN n) := ⟨h.os, h.tape, h.output, h.size, h.block⟩
theorem below_drew {B : Nat} {a w : World} (h : Below B a w) : Below B a w.drew := ⟨h.os, h.tape, h.output, h.size, h.block⟩
theorem below_grow (w : World) (k : Nat) (os : Array Obj) : Below w.heap.size w (Sort.grow (w.drewN k) os) :=
  ⟨rfl, rfl, rfl, by simp [Sort.grow], fun b hb => Array.getElem?_append_left (by simpa using hb)⟩

theorem var_later {w w' : World} {n : String} {cs : Array Value} (h : w.var? Tryd.prog n = some cs) (hb : Below w.heap.size w w') : w'.var? Tryd.prog n = some cs := by
  unfold World.var? at h ⊢
  cases hg : Tryd.prog.globalNamed n with
  | none => simp [hg] at h
  | some g =>
    simp only [hg, Option.bind_some] at h ⊢
    have hlt : g < w.heap.size := by
      rcases Nat.lt_or_ge g w.heap.size with h' | h'
      · exact h'
      · rw [Array.getElem?_eq_none h'] at h; simp at h
    rw [hb.block g hlt]
    exact h

/-- The package-level variables that the road reads: the powers of ten, and the kinds' names kn. -/
structure Tabs (w : World) (kn : Nat → ByteArray) : Prop where
  pow : Lib.TabIs Tryd.prog w powName .u64 Lib.pow10Tab
  name : ∀ k, k < 13 → w.cell? ⟨0, k, none⟩ = some (.string (kn k))
theorem Tabs.later {w w' : World} {kn : Nat → ByteArray} (h : Tabs w kn) (hb : Below w.heap.size w w') : Tabs w' kn :=
  ⟨var_later h.pow hb, fun k hk => cell_later (h.name k hk) hb⟩

/-- Kind.String. -/
def kindStr (kn : Nat → ByteArray) (k : Int) : ByteArray :=
  if 0 ≤ k ∧ k < 13 then kn k.toNat else (⟨#[75, 105, 110, 100, 40]⟩ : ByteArray) ++ ⟨(Lib.itoa k).toArray⟩ ++ ⟨#[41]⟩

def StrPost (s : ByteArray) (w : World) (e : Ending) (w' : World) : Prop := e = .returned (.string s) ∧ Below w.heap.size w w'

theorem kindStr_any (kn : Nat → ByteArray) (k : Int) (h0 : -9223372036854775808 ≤ k) (h1 : k ≤ 9223372036854775807) (w : World) (T : Hid (Tabs w kn)) :
    Calls Tryd.prog 14 #[.int .i64 k] w (StrPost (kindStr kn k) w) := by
  have hL := Lib.itoa_length_le k h0 h1
  by_cases hk : 0 ≤ k ∧ k < 13
  · obtain ⟨n, rfl⟩ := Int.eq_ofNat_of_zero_le hk.1
    have hn : n < 13 := by omega
    have hc := T.out.name n hn
    go_enter Tryd.func14, Tryd.ntmps14
    go_wp2_with fail
    go_ret
    refine ⟨?_, ?_⟩
    · rw [kindStr, if_pos hk]; rfl
    · exact Below.refl _ _
  · rcases Int.lt_or_le k 0 with hlt | hge
    · go_enter Tryd.func14, Tryd.ntmps14
      go_wp2_with fail
      refine (Tryd.strconv_Itoa k h0 h1 _ T.out.pow).mono ?_
      rintro e w1 ⟨rfl, d, os, rfl⟩
      go_wp2_with fail
      go_ret
      refine ⟨?_, below_grow _ _ _⟩
      rw [kindStr, if_neg hk]; rfl
    · have hgt : 13 ≤ k := by omega
      go_enter Tryd.func14, Tryd.ntmps14
      go_wp2_with fail
      refine (Tryd.strconv_Itoa k h0 h1 _ T.out.pow).mono ?_
      rintro e w1 ⟨rfl, d, os, rfl⟩
      go_wp2_with fail
      go_ret
      refine ⟨?_, below_grow _ _ _⟩
      rw [kindStr, if_neg hk]; rfl

/-- Type.String. -/
def typStr (kn : Nat → ByteArray) (k : Int) (name : ByteArray) : ByteArray := if name.size = 0 then kindStr kn k else name

theorem typStr_any (kn : Nat → ByteArray) (q : Nat) (k : Int) (name : ByteArray) (h0 : -9223372036854775808 ≤ k) (h1 : k ≤ 9223372036854775807) (w : World) (T : Hid (Tabs w kn))
    (c0 : w.cell? ⟨q, 0, none⟩ = some (.int .i64 k)) (c1 : w.cell? ⟨q, 1, none⟩ = some (.string name)) :
    Calls Tryd.prog 9 #[.pointer (some ⟨q, 0, none⟩)] w (StrPost (typStr kn k name) w) := by
  by_cases hn : name.size = 0
  · have e : name = ⟨#[]⟩ := by
      obtain ⟨⟨l⟩⟩ := name
      cases l with
      | nil => rfl
      | cons a l => simp [ByteArray.size] at hn
    rw [typStr, if_pos hn]
    subst e
    go_enter Tryd.func9, Tryd.ntmps9
    go_wp2_with fail
    refine (kindStr_any kn k h0 h1 w T).mono ?_
    rintro e w1 ⟨rfl, hb⟩
    go_wp2_with fail
    go_ret
    exact ⟨rfl, hb⟩
  · rw [typStr, if_neg hn]
    have e : name.toList.isEmpty = false := by
      rw [ByteArray.toList_eq]
      obtain ⟨⟨l⟩⟩ := name
      cases l with
      | nil => exact absurd rfl hn
      | cons a l => rfl
    go_enter Tryd.func9, Tryd.ntmps9
    go_wp2_with fail
    go_ret
    exact ⟨rfl, Below.refl _ _⟩

/-- Table.Step. -/
def stepStr (key : ByteArray) (n : Int) (ts : ByteArray) : ByteArray :=
  (⟨#[40]⟩ : ByteArray) ++ key ++ ⟨#[32]⟩ ++ ⟨(Lib.itoa n).toArray⟩ ++ ⟨#[58, 32]⟩ ++ ts ++ ⟨#[41]⟩

theorem format_any (kn : Nat → ByteArray) (n : Int) (n0 : -9223372036854775808 ≤ n) (n1 : n ≤ 9223372036854775807) (w : World) (T : Tabs w kn) :
    Calls Tryd.prog 12 #[.int .i64 n, .int .i64 10] w (StrPost ⟨(Lib.itoa n).toArray⟩ w) :=
  (Tryd.strconv_FormatInt_10 n n0 n1 _ T.pow).mono fun _ _ ⟨he, _, _, hw⟩ => ⟨he, hw ▸ below_grow _ _ _⟩

theorem keep0 {w : World} {p : Nat} {s : ByteArray} (n : Nat) (h : w.cell? ⟨p, 2, none⟩ = some (.string s)) : Below w.heap.size w (w.drewN n) ∧ (w.drewN n).cell? ⟨p, 2, none⟩ = some (.string s) :=
  ⟨below_draws (Below.refl _ _) _, h⟩
theorem keep1 {w w1 w2 : World} {p : Nat} {s : ByteArray} (hb : Below w1.heap.size w1 w2) (h : Below w.heap.size w w1 ∧ w1.cell? ⟨p, 2, none⟩ = some (.string s)) : Below w.heap.size w w2 ∧ w2.cell? ⟨p, 2, none⟩ = some (.string s) :=
  ⟨later h.1 hb, cell_later h.2 hb⟩
theorem tabs_at {w w1 : World} {kn : Nat → ByteArray} {p : Nat} {s : ByteArray} (T : Hid (Tabs w kn)) (h : Below w.heap.size w w1 ∧ w1.cell? ⟨p, 2, none⟩ = some (.string s)) : Tabs w1 kn := T.out.later h.1
theorem tabs_at' {w w1 : World} {kn : Nat → ByteArray} {p : Nat} {s : ByteArray} (T : Hid (Tabs w kn)) (h : Below w.heap.size w w1 ∧ w1.cell? ⟨p, 2, none⟩ = some (.string s)) : Hid (Tabs w1 kn) := T.out.later h.1
theorem cell_at {w w1 : World} {p q o : Nat} {s : ByteArray} {v : Value} (c : Hid (w.cell? ⟨q, o, none⟩ = some v)) (h : Below w.heap.size w w1 ∧ w1.cell? ⟨p, 2, none⟩ = some (.string s)) : w1.cell? ⟨q, o, none⟩ = some v := cell_later c.out h.1

set_option maxHeartbeats 1000000 in
theorem step_any (kn : Nat → ByteArray) (p q : Nat) (key : ByteArray) (n k : Int) (name ts : ByteArray) (e : ts = typStr kn k name) (h0 : -9223372036854775808 ≤ k) (h1 : k ≤ 9223372036854775807) (n0 : -9223372036854775808 ≤ n) (n1 : n ≤ 9223372036854775807)
    (hkey : key.size ≤ 2000000) (hts : ts.size ≤ 2000000) (w : World) (T : Hid (Tabs w kn))
    (c0 : w.cell? ⟨q, 0, none⟩ = some (.int .i64 k)) (c1 : w.cell? ⟨q, 1, none⟩ = some (.string name)) (c2 : w.cell? ⟨p, 2, none⟩ = some (.string key)) :
    Calls Tryd.prog 6 #[.pointer (some ⟨p, 0, none⟩), .int .i64 n, .pointer (some ⟨q, 0, none⟩)] w (StrPost (stepStr key n ts) w) := by
  have hL := Lib.itoa_length_le n n0 n1
  have C0 : Hid (w.cell? ⟨q, 0, none⟩ = some (.int .i64 k)) := c0
  have C1 : Hid (w.cell? ⟨q, 1, none⟩ = some (.string name)) := c1
  have b1 : ¬ 9223372036854775807 < 1 + key.size := by omega
  have b2 : ¬ 9223372036854775807 < 1 + key.size + 1 := by omega
  have b3 : ¬ 9223372036854775807 < 1 + key.size + 1 + (Lib.itoa n).length := by omega
  have b4 : ¬ 9223372036854775807 < 1 + key.size + 1 + (Lib.itoa n).length + 2 := by omega
  have b5 : ¬ 9223372036854775807 < 1 + key.size + 1 + (Lib.itoa n).length + 2 + ts.size := by omega
  have b6 : ¬ 9223372036854775807 < 1 + key.size + 1 + (Lib.itoa n).length + 2 + ts.size + 1 := by omega
  have E : Hid (ts = typStr kn k name) := e
  clear c0 c1 e hL hkey hts
  go_enter Tryd.func6, Tryd.ntmps6
  go_wp2_with fail
  go_region_held3 (fun w' => Below w.heap.size w w' ∧ w'.cell? ⟨p, 2, none⟩ = some (.string key))
    (first | exact keep0 _ c2 | (refine keep1 hb1 ?_; with_reducible assumption) | (refine keep1 hb2 ?_; with_reducible assumption))
    (first
      | (go_at_call 12; refine (format_any kn n n0 n1 _ (tabs_at T (by with_reducible assumption))).mono ?_; rintro e w1 ⟨rfl, hb1⟩)
      | (go_at_call 9; refine (typStr_any kn q k name h0 h1 _ (tabs_at' T (by with_reducible assumption)) (cell_at C0 (by with_reducible assumption)) (cell_at C1 (by with_reducible assumption))).mono ?_; rintro e w2 ⟨rfl, hb2⟩; rw [← E.out]))
  all_goals go_wp2_with fail
  all_goals go_ret
  all_goals exact ⟨rfl, by first | exact (keep1 hb2 (by assumption)).1 | exact (by assumption : _ ∧ _).1⟩
end Go.Proofs.Qxb6608862aDoor
