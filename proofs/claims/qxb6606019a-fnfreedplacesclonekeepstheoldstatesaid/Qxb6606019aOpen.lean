import Derived.Test.Qxb6606019aLaw
import Derived.ProofKit
import Derived.OpenShut
import Derived.ShutString
import Derived.ChangeOld
import Derived.Deep.Slices
namespace Go.Proofs.Qxb6606019a
open Go.ChangeShapes Go.WideShapes Go.ChangeAt Go.RowKit Go.Deep

theorem own : ownKnob Try.prog.godebug = none := by kernel_rfl
theorem laidOut : laidOutB Try.prog = true := by kernel_rfl
theorem Try.cells83 : Try.prog.cellsOf 83 = 2 := by kernel_rfl

theorem ints_some {W : World} {a : Addr} {len cap : Nat} {zs : List Int} {k : IntKind} (hl : len ≤ cap) (hz : zs.length = cap) (hc : ∀ i, i < zs.length → W.cell? (a.add i) = some (.int k (zs.getD i 0))) :
    Ints W.heap.size W (some a) k len (fun i => zs.getD i 0) := by
  by_cases h0 : len = 0
  · exact .inl h0
  obtain ⟨b, o, sp⟩ := a
  have h := hc 0 (by omega)
  have hsp : sp = none := by simpa [Addr.add] using World.cell?_spot h
  subst hsp
  have hc' : ∀ i, i < zs.length → W.cell? ⟨b, o + i, none⟩ = some (.int k (zs.getD i 0)) := fun i hi => by rw [← add_plain]; exact hc i hi
  exact .inr ⟨b, o, rfl, lt_of_cell (hc' 0 (by omega)), fun i hi => hc' i (by omega)⟩

/-- What the walk is told of a slice of integers that came in. -/
def InInts (k : IntKind) (W : World) (a : Option Addr) (len cap : Nat) : Prop :=
  ∃ f : Nat → Int, Ints W.heap.size W a k len f ∧ (a = none → len = 0 ∧ cap = 0) ∧ ∀ i, i < len → (Lit.int k (f i)).wf = true
def InPrs (W : World) (a : Option Addr) (len cap : Nat) : Prop :=
  ∃ f g : Nat → Int, Prs W.heap.size W a len f g ∧ (a = none → len = 0 ∧ cap = 0)

theorem in_ints {H : Type} {enc : TypeId × Value → H} {P : Program} {W : World} {t e : TypeId} {k : IntKind} {a : Option Addr} {len cap : Nat} {d : DataW H} {p : List MemPlace} (ht : P.underlying t = some (.slice e)) (he : P.underlying e = some (.int k)) (hc : P.cellsOf e = 1)
    (h : DataW.Trod enc P W 0 (fun _ => true) true t (.slice a len cap) d p) : InInts k W a len cap := by
  obtain ⟨fuel, hf⟩ := h
  rcases open_ints ht he hc hf with ⟨hcs, _⟩ | ⟨x, l, c, zs, hcs, _, hl, hm, hz, _, hcell, hwz⟩
  · simp [Value.cells] at hcs
    obtain ⟨rfl, rfl, rfl⟩ := hcs
    exact ⟨fun _ => 0, .inl rfl, fun _ => ⟨rfl, rfl⟩, fun i hi => by omega⟩
  · simp [Value.cells] at hcs
    obtain ⟨rfl, rfl, rfl⟩ := hcs
    have hz' : zs.length = cap := by simpa using hz
    refine ⟨fun i => zs.getD i 0, ints_some hl hz' hcell, (fun h => by cases h), fun i hi => ?_⟩
    have hi' : i < zs.length := by omega
    refine hwz _ ?_
    show zs.getD i 0 ∈ zs
    rw [List.getD_eq_getElem?_getD, List.getElem?_eq_getElem hi']
    exact List.getElem_mem hi'

theorem in_prs {H : Type} {enc : TypeId × Value → H} {W : World} {a : Option Addr} {len cap : Nat} {d : DataW H} {p : List MemPlace}
    (h : DataW.Trod enc Try.prog W 0 (fun _ => true) true 53 (.slice a len cap) d p) : InPrs W a len cap := by
  obtain ⟨fuel, hf⟩ := h
  rcases open_slice Try.underlying53 hf with ⟨hcs, _⟩ | ⟨x, l, c, m, n, D, Pl, hcs, _, hl, hm, hmm, _, hel⟩
  · simp [Value.cells] at hcs
    obtain ⟨rfl, rfl, rfl⟩ := hcs
    exact ⟨fun _ => 0, fun _ => 0, .inl rfl, fun _ => ⟨rfl, rfl⟩⟩
  · simp [Value.cells] at hcs
    obtain ⟨rfl, rfl, rfl⟩ := hcs
    simp only [if_true] at hmm
    subst hmm
    have each : ∀ i, i < len → ∃ v : Int × Int, W.cell? (x.add (i * 2)) = some (.int .i32 v.1) ∧ W.cell? ((x.add (i * 2)).add 1) = some (.int .i32 v.2) := by
      intro i hi
      obtain ⟨cs', h1, h2⟩ := hel i (by omega)
      rw [Try.cells83] at h1
      obtain ⟨xs, q, _, _, hcl, hxl, hx⟩ := DataW.trod_array Try.underlying83 h2
      rw [Try.cells21] at hx
      rw [Try.cells83] at hcl
      obtain ⟨u, v, rfl⟩ : ∃ u v, cs' = [u, v] := by
        match cs', hcl with
        | [u, v], _ => exact ⟨u, v, rfl⟩
      have x0 := hx 0 (by omega)
      have x1 := hx 1 (by omega)
      obtain ⟨y0, hy0⟩ : ∃ y, xs[0]? = some y := ⟨xs[0]'(by omega), by simp⟩
      obtain ⟨y1, hy1⟩ : ∃ y, xs[1]? = some y := ⟨xs[1]'(by omega), by simp⟩
      rw [hy0] at x0
      rw [hy1] at x1
      obtain ⟨p0, e0, _, _⟩ := DataW.trod_int Try.underlying21 x0
      obtain ⟨p1, e1, _, _⟩ := DataW.trod_int Try.underlying21 x1
      simp at e0 e1
      subst e0 e1
      obtain ⟨_, _, hs⟩ := World.cells?_some h1
      refine ⟨(p0, p1), ?_, hs 1 (by omega)⟩
      have := hs 0 (by omega)
      simpa [Addr.add] using this
    obtain ⟨F, hF⟩ := choose_lt each
    refine ⟨fun i => (F i).1, fun i => (F i).2, ?_, (fun h => by cases h)⟩
    by_cases h0 : len = 0
    · exact .inl h0
    obtain ⟨b, o, sp⟩ := x
    have h := (hF 0 (by omega)).1
    have hsp : sp = none := by simpa [Addr.add] using World.cell?_spot h
    subst hsp
    refine .inr ⟨b, o, rfl, ?_, fun i hi => ?_⟩
    · rw [add_plain] at h
      exact lt_of_cell h
    · have h2 := hF i hi
      rw [add_plain, add_plain] at h2
      exact h2
end Go.Proofs.Qxb6606019a
