/-
  What both rows' proofs share: the opening of the slice of strings.
-/
import Derived.Test.Qxb6627608aWalksA
import Derived.ProofKit
import Derived.SizedLaws
namespace Go.Proofs.Qxb6627608a
open Go.ChangeShapes Go.WideShapes Go.ChangeAt Go.RowKit

theorem Try.own : ownKnob Try.prog.godebug = none := by kernel_rfl
theorem Try.laidOut : laidOutB Try.prog = true := by kernel_rfl
theorem Try.cells9 : Try.prog.cellsOf 9 = 1 := by kernel_rfl

theorem open_names {H : Type} {enc : TypeId × Value → H} {W : World} {r : Reach} {b0 : Nat} {v : Value} {d : DataW H} {p : List MemPlace} (hv : Value.okWide Try.prog W r b0 22 v)
    (h : DataW.Trod enc Try.prog W 0 (fun _ => true) true 22 v d p) :
    ∃ a l cap ss, v = .slice a l cap ∧ l ≤ maxLen ∧ l ≤ cap ∧ l ≤ ss.length ∧ (a = none → l = 0 ∧ cap = 0) ∧ Strs W a l ss := by
  obtain ⟨a0, len, cap, rfl⟩ := okWide_slice Try.underlying22 hv
  obtain ⟨fuel, hf⟩ := h
  rcases open_strings Try.underlying22 Try.underlying9 Try.cells9 hf with ⟨hcs, _⟩ | ⟨a, len', cap', ss, hcs, _, hl, hm, hz, _, hcell, _⟩
  · simp [Value.cells] at hcs
    obtain ⟨rfl, rfl, rfl⟩ := hcs
    exact ⟨none, 0, 0, [], rfl, by simp, by simp, by simp, fun _ => ⟨rfl, rfl⟩, fun j hj => absurd hj (by omega)⟩
  · simp [Value.cells] at hcs
    obtain ⟨rfl, rfl, rfl⟩ := hcs
    simp only [if_true] at hz
    refine ⟨some a, len, cap, ss, rfl, by omega, hl, by omega, (fun h => by cases h), fun j hj => ?_⟩
    have hc := hcell j (by omega)
    obtain ⟨b, off, spot⟩ := a
    have hspot : spot = none := by simpa [Addr.add] using World.cell?_spot (hcell 0 (by omega))
    subst hspot
    exact ⟨b, off, rfl, by rw [← add_plain]; exact hc⟩
end Go.Proofs.Qxb6627608a
